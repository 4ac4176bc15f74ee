/-
  THE PLAIN LAWS OF zzCleanB1: no Go in sight. 'Pa.cleanEls' is the shelf's own word for path/filepath.Clean.
-/
import Derived.Lib.CleanFns
namespace Go.Proofs.Qxb6604484aFmt.Cl
open Go.Lib

/-- One segment met, as zzCleanB1's text has it; 'st': the segments kept so far, THE LAST FIRST. -/
def zstep (rooted : Bool) (st : List (List UInt8)) (e : List UInt8) : List (List UInt8) :=
  if e = [] ∨ e = [46] then st
  else if e = [46, 46] then
    match st with
    | x :: r => if x = [46, 46] then (if rooted then st else e :: st) else r
    | [] => if rooted then [] else [e]
  else e :: st

theorem zstep_nil (rooted : Bool) (st : List (List UInt8)) : zstep rooted st [] = st := by simp [zstep]

theorem step_false (st : List (List UInt8)) (e : List UInt8) : Pa.cleanStep false st e = zstep false st e := by
  unfold Pa.cleanStep zstep
  split
  · rfl
  · split
    · cases st with
      | nil => rfl
      | cons x r => simp
    · rfl

theorem step_true (st : List (List UInt8)) (e : List UInt8) (h : ∀ x ∈ st, x ≠ [46, 46]) : Pa.cleanStep true st e = zstep true st e ∧ ∀ x ∈ zstep true st e, x ≠ [46, 46] := by
  unfold Pa.cleanStep zstep
  by_cases h1 : e = [] ∨ e = [46]
  · rw [if_pos h1, if_pos h1]
    exact ⟨rfl, h⟩
  · rw [if_neg h1, if_neg h1]
    by_cases h2 : e = [46, 46]
    · rw [if_pos h2, if_pos h2]
      cases st with
      | nil => exact ⟨rfl, fun x hx => by simp at hx⟩
      | cons x r =>
        have hx : x ≠ [46, 46] := h x (List.mem_cons_self ..)
        simp only [if_neg hx]
        exact ⟨trivial, fun y hy => h y (List.mem_cons_of_mem _ hy)⟩
    · rw [if_neg h2, if_neg h2]
      refine ⟨rfl, fun y hy => ?_⟩
      rcases List.mem_cons.1 hy with rfl | hy
      · exact h2
      · exact h y hy

theorem fold_true : ∀ (L : List (List UInt8)) (st : List (List UInt8)), (∀ x ∈ st, x ≠ [46, 46]) → L.foldl (Pa.cleanStep true) st = L.foldl (zstep true) st
  | [], _, _ => rfl
  | e :: L, st, h => by
    obtain ⟨h1, h2⟩ := step_true st e h
    simp only [List.foldl_cons, h1]
    exact fold_true L _ h2

theorem fold_eq (rooted : Bool) (L : List (List UInt8)) : L.foldl (Pa.cleanStep rooted) [] = L.foldl (zstep rooted) [] := by
  cases rooted
  · have h : Pa.cleanStep false = zstep false := by
      funext st e
      exact step_false st e
    rw [h]
  · exact fold_true L [] (fun x hx => by simp at hx)

/-- What is kept of a text, from st on. -/
def kept (rooted : Bool) (st : List (List UInt8)) (l : List UInt8) : List (List UInt8) := (Pa.els l).foldl (zstep rooted) st

theorem kept_nil (rooted : Bool) (st : List (List UInt8)) : kept rooted st [] = st := by simp [kept, Pa.els, zstep_nil]

theorem kept_slash (rooted : Bool) (st : List (List UInt8)) (l : List UInt8) : kept rooted st (47 :: l) = kept rooted st l := by simp [kept, Pa.els, zstep_nil]

theorem els_ne (l : List UInt8) : ∃ e r, Pa.els l = e :: r := by
  cases l with
  | nil => exact ⟨[], [], rfl⟩
  | cons c t =>
    unfold Pa.els
    split
    · exact ⟨_, _, rfl⟩
    · cases h : Pa.els t with
      | nil => exact ⟨_, _, rfl⟩
      | cons e r => exact ⟨_, _, rfl⟩

theorem els_run : ∀ (e r : List UInt8), (∀ c ∈ e, c ≠ 47) → (r = [] ∨ ∃ t, r = 47 :: t) → ∃ R, Pa.els (e ++ r) = e :: R ∧ Pa.els r = [] :: R
  | [], r, _, hr => by
    rcases hr with rfl | ⟨t, rfl⟩
    · exact ⟨[], rfl, rfl⟩
    · exact ⟨Pa.els t, by simp [Pa.els], by simp [Pa.els]⟩
  | c :: e, r, he, hr => by
    obtain ⟨R, h1, h2⟩ := els_run e r (fun x hx => he x (List.mem_cons_of_mem _ hx)) hr
    refine ⟨R, ?_, h2⟩
    have hc : c ≠ 47 := he c (List.mem_cons_self ..)
    simp only [List.cons_append, Pa.els, if_neg hc, h1]

theorem kept_run (rooted : Bool) (st : List (List UInt8)) (e r : List UInt8) (he : ∀ c ∈ e, c ≠ 47) (hr : r = [] ∨ ∃ t, r = 47 :: t) : kept rooted st (e ++ r) = kept rooted (zstep rooted st e) r := by
  obtain ⟨R, h1, h2⟩ := els_run e r he hr
  simp only [kept, h1, h2, List.foldl_cons, zstep_nil]

/-- The text that is laid from the segments. -/
def laid (rooted : Bool) (segs : List (List UInt8)) : List UInt8 :=
  if (if rooted then [47] else []) ++ [47].intercalate segs = [] then [46] else (if rooted then [47] else []) ++ [47].intercalate segs

theorem clean_eq (l : List UInt8) : Pa.cleanEls l = laid (l.head? == some 47) (kept (l.head? == some 47) [] l).reverse := by
  unfold Pa.cleanEls laid kept
  rw [← fold_eq]
  by_cases hl : l = []
  · subst hl
    rfl
  · rw [if_neg hl]
    cases h : (l.head? == some 47)
    · simp
    · simp

set_option linter.unusedSimpArgs false
/-- Where the slash-free run at off ends. -/
def stop (text : List UInt8) (off : Nat) : Nat := off + ((text.drop off).takeWhile (fun c => c != 47)).length

theorem takeWhile_none : ∀ (l : List UInt8), (∀ k : Nat, l[k]? ≠ some 47) → (l.takeWhile (fun c => c != 47)).length = l.length
  | [], _ => rfl
  | c :: cs, h => by
    have h0 : c ≠ 47 := by have := h 0; simpa using this
    have ih := takeWhile_none cs (fun k => by have := h (k + 1); simpa using this)
    simp [List.takeWhile_cons, h0, ih]

theorem takeWhile_some : ∀ (l : List UInt8) (j : Nat), l[j]? = some 47 → (∀ k, k < j → l[k]? ≠ some 47) → (l.takeWhile (fun c => c != 47)).length = j
  | [], j, h, _ => by simp at h
  | c :: cs, 0, h, _ => by
    simp at h
    subst h
    simp [List.takeWhile_cons]
  | c :: cs, j + 1, h, hk => by
    have h0 : c ≠ 47 := by have := hk 0 (by omega); simpa using this
    have ih := takeWhile_some cs j (by simpa using h) (fun k hkj => by have := hk (k + 1) (by omega); simpa using this)
    simp [List.takeWhile_cons, h0, ih]

theorem takeWhile_at : ∀ (l : List UInt8) (k : Nat), k < (l.takeWhile (fun c => c != 47)).length → ∃ c, l[k]? = some c ∧ c ≠ 47
  | [], k, h => by simp at h
  | c :: cs, k, h => by
    by_cases h0 : c = 47
    · subst h0
      simp [List.takeWhile_cons] at h
    · cases k with
      | zero => exact ⟨c, by simp, h0⟩
      | succ k =>
        have := takeWhile_at cs k (by simpa [List.takeWhile_cons, h0] using h)
        simpa using this

theorem takeWhile_end : ∀ (l : List UInt8), (l.takeWhile (fun c => c != 47)).length < l.length → l[(l.takeWhile (fun c => c != 47)).length]? = some 47
  | [], h => by simp at h
  | c :: cs, h => by
    by_cases h0 : c = 47
    · subst h0
      simp [List.takeWhile_cons]
    · have ih := takeWhile_end cs (by simpa [List.takeWhile_cons, h0] using h)
      simpa [List.takeWhile_cons, h0] using ih

theorem takeWhile_le : ∀ (l : List UInt8), (l.takeWhile (fun c => c != 47)).length ≤ l.length
  | [] => by simp
  | c :: cs => by
    have := takeWhile_le cs
    by_cases h0 : c = 47 <;> simp [List.takeWhile_cons, h0] <;> omega

theorem stop_ge (text : List UInt8) (off : Nat) : off ≤ stop text off := by unfold stop; omega

theorem stop_le (text : List UInt8) (off : Nat) (h : off ≤ text.length) : stop text off ≤ text.length := by
  unfold stop
  have := takeWhile_le (text.drop off)
  simp at this
  omega

/-- No slash within the run. -/
theorem stop_in (text : List UInt8) (off k : Nat) (h : off + k < stop text off) : ∃ c, text[off + k]? = some c ∧ c ≠ 47 := by
  unfold stop at h
  obtain ⟨c, h1, h2⟩ := takeWhile_at (text.drop off) k (by omega)
  rw [List.getElem?_drop] at h1
  exact ⟨c, h1, h2⟩

/-- A slash at its end, or the text's end. -/
theorem stop_at (text : List UInt8) (off : Nat) (h : stop text off < text.length) : text[stop text off]? = some 47 := by
  have := takeWhile_end (text.drop off) (by unfold stop at h; simp; omega)
  rw [List.getElem?_drop] at this
  exact this

/-- The run at i, and what follows it. -/
theorem run_split (l : List UInt8) (i : Nat) (h : i ≤ l.length) : ∃ r, l.drop i = (l.drop i).take (stop l i - i) ++ r ∧ r = l.drop (stop l i) ∧ (∀ c ∈ (l.drop i).take (stop l i - i), c ≠ 47) ∧ (r = [] ∨ ∃ t, r = 47 :: t) := by
  have h1 := stop_ge l i
  have h2 := stop_le l i h
  refine ⟨(l.drop i).drop (stop l i - i), (List.take_append_drop _ _).symm, ?_, ?_, ?_⟩
  · rw [List.drop_drop]
    congr 1
    omega
  · intro c hc
    obtain ⟨k, hk, e⟩ := List.getElem_of_mem hc
    have hk2 : k < stop l i - i := by
      have := hk
      rw [List.length_take] at this
      omega
    obtain ⟨d, hd1, hd2⟩ := stop_in l i k (by omega)
    have e2 : ((l.drop i).take (stop l i - i))[k]? = some c := by rw [List.getElem?_eq_getElem hk, e]
    rw [List.getElem?_take_of_lt hk2, List.getElem?_drop, hd1] at e2
    have : d = c := Option.some.inj e2
    rw [← this]
    exact hd2
  · rw [List.drop_drop]
    have e : i + (stop l i - i) = stop l i := by omega
    rw [e]
    by_cases hlt : stop l i < l.length
    · right
      have h3 := stop_at l i hlt
      rw [List.drop_eq_getElem_cons hlt]
      rw [List.getElem?_eq_getElem hlt] at h3
      exact ⟨_, by rw [Option.some.inj h3]⟩
    · left
      exact List.drop_eq_nil_of_le (by omega)

/-- The text laid so far. -/
def lp (ro : Bool) (T : List (List UInt8)) : List UInt8 := (if ro then [47] else []) ++ [47].intercalate T

theorem inter_two (e f : List UInt8) (r : List (List UInt8)) : ([47] : List UInt8).intercalate (e :: f :: r) = e ++ 47 :: ([47] : List UInt8).intercalate (f :: r) := by
  simp [List.intercalate]

theorem inter_snoc : ∀ (T : List (List UInt8)) (e : List UInt8), ([47] : List UInt8).intercalate (T ++ [e]) = if T = [] then e else ([47] : List UInt8).intercalate T ++ 47 :: e
  | [], e => by simp [List.intercalate]
  | [a], e => by simp [List.intercalate]
  | a :: b :: r, e => by
    have ih := inter_snoc (b :: r) e
    simp only [List.cons_append] at ih ⊢
    rw [inter_two, ih, inter_two]
    simp

theorem lp_snoc (ro : Bool) (T : List (List UInt8)) (e : List UInt8) (h : T ≠ []) : lp ro (T ++ [e]) = lp ro T ++ [47] ++ e := by
  unfold lp
  rw [inter_snoc, if_neg h]
  simp

theorem lp_first (ro : Bool) (e : List UInt8) : lp ro ([] ++ [e]) = lp ro [] ++ e := by
  unfold lp
  rw [inter_snoc, if_pos rfl]
  simp [List.intercalate]

/-- A bound on what the segments take. -/
def tot : List (List UInt8) → Nat
  | [] => 0
  | e :: r => e.length + 1 + tot r

theorem tot_ge : ∀ st : List (List UInt8), st.length ≤ tot st
  | [] => Nat.le_refl _
  | e :: r => by
    have := tot_ge r
    simp only [tot, List.length_cons]
    omega

theorem tot_append : ∀ (a b : List (List UInt8)), tot (a ++ b) = tot a + tot b
  | [], b => by simp [tot]
  | e :: r, b => by
    have := tot_append r b
    simp only [List.cons_append, tot]
    omega

theorem tot_reverse : ∀ a : List (List UInt8), tot a.reverse = tot a
  | [] => rfl
  | e :: r => by
    rw [List.reverse_cons, tot_append, tot_reverse r]
    simp only [tot]
    omega

theorem tot_take (a : List (List UInt8)) (m : Nat) : tot (a.take m) ≤ tot a := by
  have h := tot_append (a.take m) (a.drop m)
  rw [List.take_append_drop] at h
  omega

theorem tot_at (a : List (List UInt8)) (m : Nat) (h : m < a.length) : (a.getD m []).length ≤ tot a := by
  have h1 := tot_append (a.take m) (a.drop m)
  rw [List.take_append_drop, List.drop_eq_getElem_cons h] at h1
  simp only [tot] at h1
  have e : a.getD m [] = a[m] := by simp [h]
  rw [e]
  omega

theorem inter_len : ∀ T : List (List UInt8), (([47] : List UInt8).intercalate T).length ≤ tot T
  | [] => by simp [List.intercalate, tot]
  | [a] => by simp [List.intercalate, tot]
  | a :: b :: r => by
    have ih := inter_len (b :: r)
    rw [inter_two]
    simp only [tot, List.length_append, List.length_cons] at ih ⊢
    omega

theorem lp_len (ro : Bool) (T : List (List UInt8)) : (lp ro T).length ≤ 1 + tot T := by
  have := inter_len T
  unfold lp
  rw [List.length_append]
  cases ro <;> simp <;> omega

theorem laid_lp (ro : Bool) (T : List (List UInt8)) : laid ro T = if lp ro T = [] then [46] else lp ro T := rfl

end Go.Proofs.Qxb6604484aFmt.Cl
