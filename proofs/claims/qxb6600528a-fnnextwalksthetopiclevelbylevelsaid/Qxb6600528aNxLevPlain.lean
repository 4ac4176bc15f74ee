/-
  THE PLAIN LAWS OF nxLevels: the levels' starts and ends.
-/
import Derived.Test.Qxb6600528aNxPlain
namespace Go.Proofs.Qxb6600528a.Nx

/-- Where level i begins: at 0, or one past the end of the one before. -/
def pre (E : List Nat) (i : Nat) : Nat := if i = 0 then 0 else E.getD (i - 1) 0 + 1

theorem pre_append (E : List Nat) (x i : Nat) (h : i ≤ E.length) : pre (E ++ [x]) i = pre E i := by
  unfold pre
  split
  · rfl
  · rw [List.getD_eq_getElem?_getD, List.getD_eq_getElem?_getD, List.getElem?_append_left (by omega)]

theorem pre_last (E : List Nat) (x : Nat) : pre (E ++ [x]) (E.length + 1) = x + 1 := by
  unfold pre
  simp

theorem getD_append_left (E : List Nat) (x i : Nat) (h : i < E.length) : (E ++ [x]).getD i 0 = E.getD i 0 := by
  rw [List.getD_eq_getElem?_getD, List.getD_eq_getElem?_getD, List.getElem?_append_left h]

theorem getD_append_last (E : List Nat) (x : Nat) : (E ++ [x]).getD E.length 0 = x := by simp

theorem stop_clean (l : List UInt8) (a k : Nat) (h : a ≤ k) (hk : l[k]? = some 47) (hc : ∀ j, a ≤ j → j < k → l[j]? ≠ some 47) : stop l a = k := by
  unfold stop
  rw [takeWhile_some (l.drop a) (k - a)]
  · omega
  · rw [List.getElem?_drop]
    rw [← hk]
    congr 1
    omega
  · intro j hj
    rw [List.getElem?_drop]
    exact hc (a + j) (by omega) (by omega)

theorem stop_clean_end (l : List UInt8) (a : Nat) (h : a ≤ l.length) (hc : ∀ j, a ≤ j → j < l.length → l[j]? ≠ some 47) : stop l a = l.length := by
  unfold stop
  rw [takeWhile_none (l.drop a)]
  · simp
    omega
  · intro j
    rw [List.getElem?_drop]
    by_cases hj : a + j < l.length
    · exact hc (a + j) (by omega) hj
    · rw [List.getElem?_eq_none (by omega)]
      simp

/-- What nxLevels has gathered ahead of byte k. -/
structure Part (l : List UInt8) (k : Nat) (S E : List Nat) (start : Nat) : Prop where
  len : S.length = E.length
  nk : E.length ≤ k
  head : start = pre E E.length
  starts : ∀ i, i < E.length → S.getD i 0 = pre E i
  stops : ∀ i, i < E.length → E.getD i 0 = stop l (S.getD i 0) ∧ S.getD i 0 ≤ l.length
  clean : ∀ j, start ≤ j → j < k → l[j]? ≠ some 47
  bound : start ≤ k

theorem Part.zero (l : List UInt8) : Part l 0 [] [] 0 :=
  ⟨rfl, Nat.le_refl _, rfl, fun i hi => by simp at hi, fun i hi => by simp at hi, fun j _ hj => by omega, Nat.le_refl _⟩

theorem Part.next {l : List UInt8} {k : Nat} {S E : List Nat} {start : Nat} (h : Part l k S E start) (hk : l[k]? ≠ some 47) : Part l (k + 1) S E start :=
  ⟨h.len, by have := h.nk; omega, h.head, h.starts, h.stops, fun j h1 h2 => by
    by_cases e : j = k
    · subst e; exact hk
    · exact h.clean j h1 (by omega), by have := h.bound; omega⟩

theorem Part.slash {l : List UInt8} {k : Nat} {S E : List Nat} {start : Nat} (h : Part l k S E start) (hkl : k < l.length) (hk : l[k]? = some 47) : Part l (k + 1) (S ++ [start]) (E ++ [k]) (k + 1) := by
  have hlen := h.len
  refine ⟨by simp [hlen], by simp; exact h.nk, ?_, ?_, ?_, fun j h1 h2 => by omega, Nat.le_refl _⟩
  · simp [pre_last]
  · intro i hi
    simp at hi
    by_cases e : i < E.length
    · rw [getD_append_left S start i (by omega), pre_append E k i (by omega)]
      exact h.starts i e
    · have : i = E.length := by omega
      subst this
      rw [← hlen, getD_append_last, pre_append E k S.length (by omega), hlen]
      exact h.head
  · intro i hi
    simp at hi
    by_cases e : i < E.length
    · rw [getD_append_left S start i (by omega), getD_append_left E k i e]
      exact h.stops i e
    · have : i = E.length := by omega
      subst this
      rw [getD_append_last E k, ← hlen, getD_append_last S start]
      exact ⟨(stop_clean l start k h.bound hk h.clean).symm, by have := h.bound; omega⟩

/-- All the levels of a text. -/
structure Full (l : List UInt8) (S E : List Nat) : Prop where
  len : S.length = E.length
  pos : 0 < E.length
  small : E.length ≤ l.length + 1
  starts : ∀ i, i < E.length → S.getD i 0 = pre E i
  stops : ∀ i, i < E.length → E.getD i 0 = stop l (S.getD i 0) ∧ S.getD i 0 ≤ l.length
  last : pre E E.length = l.length + 1

theorem Part.full {l : List UInt8} {S E : List Nat} {start : Nat} (h : Part l l.length S E start) : Full l (S ++ [start]) (E ++ [l.length]) := by
  have hlen := h.len
  have hb := h.bound
  refine ⟨by simp [hlen], by simp, by simp; exact h.nk, ?_, ?_, ?_⟩
  · intro i hi
    simp at hi
    by_cases e : i < E.length
    · rw [getD_append_left S start i (by omega), pre_append E _ i (by omega)]
      exact h.starts i e
    · have : i = E.length := by omega
      subst this
      rw [← hlen, getD_append_last, pre_append E _ S.length (by omega), hlen]
      exact h.head
  · intro i hi
    simp at hi
    by_cases e : i < E.length
    · rw [getD_append_left S start i (by omega), getD_append_left E _ i e]
      exact h.stops i e
    · have : i = E.length := by omega
      subst this
      rw [getD_append_last E, ← hlen, getD_append_last S start]
      exact ⟨(stop_clean_end l start hb h.clean).symm, hb⟩
  · simp [pre_last]

end Go.Proofs.Qxb6600528a.Nx
