/-
  THE PLAIN LAWS OF (indexEntry).next: no Go in sight.
-/
import Derived.Lib.Bytealg
import Derived.Lib.IndexLaws
namespace Go.Proofs.Qxb6600528a.Nx
open Go.Lib
set_option linter.unusedSimpArgs false

/-- Some placeholder i below k lies within [a, b]. -/
def within (ss ee : List Int) (k : Nat) (a b : Int) : Bool := (List.range k).any fun i => decide (a ≤ ss.getD i 0) && decide (ee.getD i 0 ≤ b)

theorem within_zero (ss ee : List Int) (a b : Int) : within ss ee 0 a b = false := rfl

theorem within_succ (ss ee : List Int) (k : Nat) (a b : Int) : within ss ee (k + 1) a b = (within ss ee k a b || (decide (a ≤ ss.getD k 0) && decide (ee.getD k 0 ≤ b))) := by
  simp [within, List.range_succ]

theorem within_no (ss ee : List Int) (k : Nat) (a b : Int) (h : within ss ee k a b = false) (hn : ¬ (a ≤ ss.getD k 0 ∧ ee.getD k 0 ≤ b)) : within ss ee (k + 1) a b = false := by
  rw [within_succ, h, Bool.false_or]
  by_cases h1 : a ≤ ss.getD k 0
  · have h2 : ¬ ee.getD k 0 ≤ b := fun e => hn ⟨h1, e⟩
    rw [decide_eq_false h2, Bool.and_false]
  · rw [decide_eq_false h1, Bool.false_and]

theorem within_yes (ss ee : List Int) (k m : Nat) (a b : Int) (hk : k < m) (h1 : a ≤ ss.getD k 0) (h2 : ee.getD k 0 ≤ b) : within ss ee m a b = true := by
  unfold within
  rw [List.any_eq_true]
  exact ⟨k, by simpa using hk, by rw [decide_eq_true h1, decide_eq_true h2]; rfl⟩

/-- Where the slash-free run at off ends. -/
def stop (text : List UInt8) (off : Nat) : Nat := off + ((text.drop off).takeWhile (fun c => c != 47)).length

theorem takeWhile_none : ∀ (l : List UInt8), (∀ k : Nat, l[k]? ≠ some 47) → (l.takeWhile (fun c => c != 47)).length = l.length
  | [], _ => rfl
  | c :: cs, h => by
    have h0 : c ≠ 47 := by have := h 0; simpa using this
    have ih := takeWhile_none cs (fun k => by have := h (k + 1); simpa using this)
    simp [List.takeWhile_cons, h0, ih]

theorem takeWhile_some : ∀ (l : List UInt8) (j : Nat), l[j]? = some 47 → (∀ k, k < j → l[k]? ≠ some 47) → (l.takeWhile (fun c => c != 47)).length = j
  | [], j, h, _ => by simp at h
  | c :: cs, 0, h, _ => by
    simp at h
    subst h
    simp [List.takeWhile_cons]
  | c :: cs, j + 1, h, hk => by
    have h0 : c ≠ 47 := by have := hk 0 (by omega); simpa using this
    have ih := takeWhile_some cs j (by simpa using h) (fun k hkj => by have := hk (k + 1) (by omega); simpa using this)
    simp [List.takeWhile_cons, h0, ih]

theorem takeWhile_at : ∀ (l : List UInt8) (k : Nat), k < (l.takeWhile (fun c => c != 47)).length → ∃ c, l[k]? = some c ∧ c ≠ 47
  | [], k, h => by simp at h
  | c :: cs, k, h => by
    by_cases h0 : c = 47
    · subst h0
      simp [List.takeWhile_cons] at h
    · cases k with
      | zero => exact ⟨c, by simp, h0⟩
      | succ k =>
        have := takeWhile_at cs k (by simpa [List.takeWhile_cons, h0] using h)
        simpa using this

theorem takeWhile_end : ∀ (l : List UInt8), (l.takeWhile (fun c => c != 47)).length < l.length → l[(l.takeWhile (fun c => c != 47)).length]? = some 47
  | [], h => by simp at h
  | c :: cs, h => by
    by_cases h0 : c = 47
    · subst h0
      simp [List.takeWhile_cons]
    · have ih := takeWhile_end cs (by simpa [List.takeWhile_cons, h0] using h)
      simpa [List.takeWhile_cons, h0] using ih

theorem takeWhile_le : ∀ (l : List UInt8), (l.takeWhile (fun c => c != 47)).length ≤ l.length
  | [] => by simp
  | c :: cs => by
    have := takeWhile_le cs
    by_cases h0 : c = 47 <;> simp [List.takeWhile_cons, h0] <;> omega

theorem stop_ge (text : List UInt8) (off : Nat) : off ≤ stop text off := by unfold stop; omega

theorem stop_le (text : List UInt8) (off : Nat) (h : off ≤ text.length) : stop text off ≤ text.length := by
  unfold stop
  have := takeWhile_le (text.drop off)
  simp at this
  omega

/-- No slash within the run. -/
theorem stop_in (text : List UInt8) (off k : Nat) (h : off + k < stop text off) : ∃ c, text[off + k]? = some c ∧ c ≠ 47 := by
  unfold stop at h
  obtain ⟨c, h1, h2⟩ := takeWhile_at (text.drop off) k (by omega)
  rw [List.getElem?_drop] at h1
  exact ⟨c, h1, h2⟩

/-- A slash at its end, or the text's end. -/
theorem stop_at (text : List UInt8) (off : Nat) (h : stop text off < text.length) : text[stop text off]? = some 47 := by
  have := takeWhile_end (text.drop off) (by unfold stop at h; simp; omega)
  rw [List.getElem?_drop] at this
  exact this

/-- What strings.IndexByte says of it. -/
theorem stop_index (text : List UInt8) (off : Nat) (h : off ≤ text.length) :
    (indexByte (text.drop off) 47 = -1 ∧ stop text off = text.length) ∨ ∃ j : Nat, indexByte (text.drop off) 47 = j ∧ stop text off = off + j := by
  have hge := indexByte_ge (text.drop off) 47
  by_cases hi : indexByte (text.drop off) 47 < 0
  · have e : indexByte (text.drop off) 47 = -1 := by omega
    left
    refine ⟨e, ?_⟩
    unfold stop
    rw [takeWhile_none _ (indexByte_none e)]
    simp
    omega
  · right
    obtain ⟨j, hj⟩ : ∃ j : Nat, indexByte (text.drop off) 47 = j := ⟨(indexByte (text.drop off) 47).toNat, by omega⟩
    obtain ⟨h1, h2⟩ := indexByte_some hj
    refine ⟨j, hj, ?_⟩
    unfold stop
    rw [takeWhile_some _ j h1 h2]

end Go.Proofs.Qxb6600528a.Nx
