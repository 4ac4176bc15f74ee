/-
  THE PLAIN LAWS OF skipBetweenValues: no Go in sight. 'skp false l': how many bytes of l are passed over (true: inside a comment).
-/
import Derived.Lib.Bytealg
import Derived.Lib.Bytes
import Derived.Lib.IndexLaws
namespace Go.Proofs.Qxb6600528a.Sk
open Go.Lib

def sepB (c : Int) : Bool := c == 32 || c == 9 || c == 13 || c == 10 || c == 44

def skp : Bool → List Int → Nat
  | _, [] => 0
  | false, c :: cs => if sepB c then skp false cs + 1 else if c == 35 then skp true cs + 1 else 0
  | true, c :: cs => if c == 10 then skp false cs + 1 else skp true cs + 1

theorem skp_le : ∀ (l : List Int) (b : Bool), skp b l ≤ l.length
  | [], b => by cases b <;> simp [skp]
  | c :: cs, b => by
    have h1 := skp_le cs false
    have h2 := skp_le cs true
    cases b <;> simp only [skp, List.length_cons] <;> repeat (first | omega | split)

theorem skp_none : ∀ (l : List Int), (∀ k : Nat, l[k]? ≠ some 10) → skp true l = l.length
  | [], _ => by simp [skp]
  | c :: cs, h => by
    have h0 : c ≠ 10 := by have := h 0; simpa using this
    have ih := skp_none cs (fun k => by have := h (k + 1); simpa using this)
    simp [skp, h0, ih]

theorem skp_some : ∀ (l : List Int) (j : Nat), l[j]? = some 10 → (∀ k, k < j → l[k]? ≠ some 10) → skp true l = j + skp false (l.drop j)
  | [], j, h, _ => by simp at h
  | c :: cs, 0, h, _ => by
    simp at h
    subst h
    simp [skp, sepB]
  | c :: cs, j + 1, h, hk => by
    have h0 : c ≠ 10 := by have := hk 0 (by omega); simpa using this
    have ih := skp_some cs j (by simpa using h) (fun k hkj => by have := hk (k + 1) (by omega); simpa using this)
    simp [skp, h0, ih]
    omega

theorem skp_rest : ∀ (l : List Int) (b : Bool) (c : Int), l[skp b l]? = some c → sepB c = false ∧ c ≠ 35
  | [], b, c, h => by simp at h
  | d :: cs, b, c, h => by
    have h1 := skp_rest cs false c
    have h2 := skp_rest cs true c
    cases b
    · simp only [skp] at h
      by_cases e : sepB d = true
      · rw [if_pos e] at h
        exact h1 (by simpa using h)
      · rw [if_neg e] at h
        by_cases e2 : (d == 35) = true
        · rw [if_pos e2] at h
          exact h2 (by simpa using h)
        · rw [if_neg e2] at h
          simp at h
          subst h
          exact ⟨by simpa using e, by simpa using e2⟩
    · simp only [skp] at h
      by_cases e : (d == 10) = true
      · rw [if_pos e] at h
        exact h1 (by simpa using h)
      · rw [if_neg e] at h
        exact h2 (by simpa using h)

theorem skp_again (l : List Int) (b : Bool) : skp false (l.drop (skp b l)) = 0 := by
  cases h : l.drop (skp b l) with
  | nil => simp [skp]
  | cons c cs =>
    have hc : l[skp b l]? = some c := by
      have : (l.drop (skp b l))[0]? = some c := by rw [h]; rfl
      simpa using this
    obtain ⟨h1, h2⟩ := skp_rest l b c hc
    simp [skp, h1, h2]

/-- The answer of skipBetweenValues. -/
def skip (xs : List Int) (off : Nat) : Nat := off + skp false (xs.drop off)

theorem skip_end (xs : List Int) (off : Nat) (h : xs.length ≤ off) : skip xs off = off := by
  unfold skip
  rw [List.drop_eq_nil_of_le h]
  simp [skp]

theorem drop_at (xs : List Int) (k : Nat) (h : k < xs.length) : xs.drop k = xs.getD k 0 :: xs.drop (k + 1) := by
  rw [List.drop_eq_getElem_cons h]
  simp [h]

theorem skip_sep (xs : List Int) (k : Nat) (h : k < xs.length) (hs : sepB (xs.getD k 0) = true) : skip xs (k + 1) = skip xs k := by
  unfold skip
  rw [drop_at xs k h]
  simp only [skp, hs, if_true]
  omega

theorem skip_stop (xs : List Int) (k : Nat) (h : k < xs.length) (hs : sepB (xs.getD k 0) = false) (h2 : xs.getD k 0 ≠ 35) : skip xs k = k := by
  unfold skip
  rw [drop_at xs k h]
  have h2' : (xs.getD k 0 == 35) = false := by simpa using h2
  simp only [skp, hs, h2', Bool.false_eq_true, if_false]
  omega

/-- All numbers are bytes. -/
def AllB (xs : List Int) : Prop := ∀ n ∈ xs, 0 ≤ n ∧ n < 256

theorem bytesOf_at (xs : List Int) (hb : AllB xs) (k : Nat) : (bytesOf xs)[k]? = some (10 : UInt8) ↔ xs[k]? = some 10 := by
  unfold bytesOf
  rw [List.getElem?_map]
  cases h : xs[k]? with
  | none => simp
  | some n =>
    have hn := hb n (List.mem_of_getElem? h)
    simp only [Option.map_some, Option.some.injEq]
    constructor
    · intro e
      have e2 := congrArg UInt8.toNat e
      simp at e2
      omega
    · intro e
      subst e
      rfl

theorem AllB.drop {xs : List Int} (h : AllB xs) (k : Nat) : AllB (xs.drop k) := fun n hn => h n (List.mem_of_mem_drop hn)

theorem skip_hash_none (xs : List Int) (hb : AllB xs) (k : Nat) (h : k < xs.length) (hs : xs.getD k 0 = 35) (hi : indexByte (bytesOf (xs.drop k)) 10 < 0) : skip xs k = xs.length := by
  have hge := indexByte_ge (bytesOf (xs.drop k)) 10
  have hn := indexByte_none (show indexByte (bytesOf (xs.drop k)) 10 = -1 by omega)
  have h1 : ∀ j : Nat, (xs.drop (k + 1))[j]? ≠ some 10 := by
    intro j e
    refine hn (j + 1) ((bytesOf_at _ (hb.drop k) _).2 ?_)
    rw [List.getElem?_drop] at e ⊢
    rw [← e]
    congr 1
    omega
  unfold skip
  rw [drop_at xs k h, hs]
  have hl := skp_none _ h1
  simp only [skp, sepB]
  simp only [List.length_drop] at hl
  simp [hl]
  omega

theorem skip_hash_some (xs : List Int) (hb : AllB xs) (k : Nat) (h : k < xs.length) (hs : xs.getD k 0 = 35) (hi : ¬ indexByte (bytesOf (xs.drop k)) 10 < 0) :
    ∃ j : Nat, indexByte (bytesOf (xs.drop k)) 10 = j ∧ 0 < j ∧ k + j < xs.length ∧ skip xs (k + j) = skip xs k := by
  obtain ⟨j, hj⟩ : ∃ j : Nat, indexByte (bytesOf (xs.drop k)) 10 = j := ⟨(indexByte (bytesOf (xs.drop k)) 10).toNat, by omega⟩
  obtain ⟨h1, h2⟩ := indexByte_some hj
  have g1 := (bytesOf_at _ (hb.drop k) j).1 h1
  have g2 : ∀ i, i < j → (xs.drop k)[i]? ≠ some 10 := fun i hi e => h2 i hi ((bytesOf_at _ (hb.drop k) i).2 e)
  have hj0 : 0 < j := by
    rcases Nat.eq_zero_or_pos j with e | e
    · subst e
      rw [drop_at xs k h, hs] at g1
      simp at g1
    · exact e
  have hlt : k + j < xs.length := by
    have := (List.getElem?_eq_some_iff.1 g1).1
    simp at this
    omega
  refine ⟨j, hj, hj0, hlt, ?_⟩
  obtain ⟨i, rfl⟩ : ∃ i, j = i + 1 := ⟨j - 1, by omega⟩
  have e1 : (xs.drop (k + 1))[i]? = some 10 := by
    rw [List.getElem?_drop] at g1 ⊢
    rw [← g1]
    congr 1
    omega
  have e2 : ∀ t, t < i → (xs.drop (k + 1))[t]? ≠ some 10 := by
    intro t ht e
    refine g2 (t + 1) (by omega) ?_
    rw [List.getElem?_drop] at e ⊢
    rw [← e]
    congr 1
    omega
  have hl := skp_some _ i e1 e2
  unfold skip
  rw [drop_at xs k h, hs]
  simp only [skp, sepB]
  rw [List.drop_drop] at hl
  have e3 : k + 1 + i = k + (i + 1) := by omega
  rw [e3] at hl
  simp [hl]
  omega

theorem skip_le (xs : List Int) (off : Nat) (h : off ≤ xs.length) : off ≤ skip xs off ∧ skip xs off ≤ xs.length := by
  unfold skip
  have := skp_le (xs.drop off) false
  simp at this
  omega

/-- THE FIRST LAW's LAST LINES: the answer rests on a value, and skipping again stays. -/
theorem skip_rests (xs : List Int) (off : Nat) (h : skip xs off < xs.length) : sepB (xs.getD (skip xs off) 0) = false ∧ xs.getD (skip xs off) 0 ≠ 35 := by
  have hc : (xs.drop off)[skp false (xs.drop off)]? = some (xs.getD (skip xs off) 0) := by
    rw [List.getElem?_drop]
    show xs[skip xs off]? = _
    simp [h]
  exact skp_rest _ _ _ hc

theorem skip_again (xs : List Int) (off : Nat) : skip xs (skip xs off) = skip xs off := by
  have := skp_again (xs.drop off) false
  rw [List.drop_drop] at this
  show skip xs off + skp false (xs.drop (skip xs off)) = skip xs off
  have e : off + skp false (xs.drop off) = skip xs off := rfl
  rw [e] at this
  omega

/-- THE SECOND LAW: bytes laid before the data change nothing but the offset. -/
theorem skip_shift (p d : List Int) (off : Nat) : skip (p ++ d) (p.length + off) = p.length + skip d off := by
  unfold skip
  have e : (p ++ d).drop (p.length + off) = d.drop off := by
    rw [List.drop_append, List.drop_eq_nil_of_le (by omega), List.nil_append]
    congr 1
    omega
  rw [e]
  omega

theorem skip_bd (xs : List Int) (off : Nat) : skip xs off ≤ off + xs.length := by
  unfold skip
  have := skp_le (xs.drop off) false
  simp at this
  omega

theorem AllB.append {xs ys : List Int} (h : AllB xs) (k : AllB ys) : AllB (xs ++ ys) := fun n hn => by
  rcases List.mem_append.1 hn with e | e
  · exact h n e
  · exact k n e

end Go.Proofs.Qxb6600528a.Sk
