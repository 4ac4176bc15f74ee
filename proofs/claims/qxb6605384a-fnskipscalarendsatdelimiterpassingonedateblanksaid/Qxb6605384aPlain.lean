/-
  THE PLAIN LAWS OF skipScalar: no Go in sight.
-/
import Derived.Lib.Bytealg
import Derived.Lib.Strings
namespace Go.Proofs.Qxb6605384a.Sc

/-- A delimiter. -/
def isD (c : Int) : Bool := c == 32 || c == 9 || c == 13 || c == 10 || c == 44 || c == 93 || c == 125 || c == 35

/-- A digit. -/
def isN (c : Int) : Bool := decide (48 ≤ c) && decide (c ≤ 57)

/-- The byte at p. -/
def bt (text : ByteArray) (p : Nat) : Int := (((text.data.toList.getD p 0).toNat : Nat) : Int)

theorem bt_eq (text : ByteArray) (p : Nat) (h : p < text.size) : (((text[p].toNat : Nat)) : Int) = bt text p := by
  unfold bt
  rw [List.getD_eq_getElem?_getD, List.getElem?_eq_getElem (by simpa using h)]
  rfl

/-- Where the run without delimiter at k ends: fuel, place. -/
def run (text : ByteArray) : Nat → Nat → Nat
  | 0, k => k
  | n + 1, k => if k < text.size then (if isD (bt text k) then k else run text n (k + 1)) else k

def fin (text : ByteArray) (k : Nat) : Nat := run text (text.size - k) k

theorem fin_end (text : ByteArray) (k : Nat) (h : text.size ≤ k) : fin text k = k := by
  unfold fin
  rw [show text.size - k = 0 by omega]
  rfl

theorem fin_stop (text : ByteArray) (k : Nat) (h : k < text.size) (hd : isD (bt text k) = true) : fin text k = k := by
  unfold fin
  obtain ⟨n, hn⟩ : ∃ n, text.size - k = n + 1 := ⟨text.size - k - 1, by omega⟩
  rw [hn]
  simp [run, h, hd]

theorem fin_step (text : ByteArray) (k : Nat) (h : k < text.size) (hd : isD (bt text k) = false) : fin text k = fin text (k + 1) := by
  unfold fin
  obtain ⟨n, hn⟩ : ∃ n, text.size - k = n + 1 := ⟨text.size - k - 1, by omega⟩
  rw [hn, show text.size - (k + 1) = n by omega]
  simp [run, h, hd]

theorem run_ge (text : ByteArray) : ∀ n k, k ≤ run text n k
  | 0, k => Nat.le_refl _
  | n + 1, k => by
    have := run_ge text n (k + 1)
    unfold run
    split
    · split
      · exact Nat.le_refl _
      · omega
    · exact Nat.le_refl _

theorem fin_ge (text : ByteArray) (k : Nat) : k ≤ fin text k := run_ge _ _ _

theorem fin_facts (text : ByteArray) : ∀ n k, text.size - k = n → k ≤ text.size → fin text k ≤ text.size ∧ (∀ p, k ≤ p → p < fin text k → isD (bt text p) = false) ∧ (fin text k < text.size → isD (bt text (fin text k)) = true)
  | 0, k, hn, hk => by
    rw [fin_end text k (by omega)]
    exact ⟨hk, fun p h1 h2 => by omega, fun h => by omega⟩
  | n + 1, k, hn, hk => by
    have hlt : k < text.size := by omega
    cases hd : isD (bt text k) with
    | true =>
      rw [fin_stop text k hlt hd]
      exact ⟨hk, fun p h1 h2 => by omega, fun _ => hd⟩
    | false =>
      obtain ⟨h1, h2, h3⟩ := fin_facts text n (k + 1) (by omega) (by omega)
      rw [fin_step text k hlt hd]
      refine ⟨h1, fun p hp1 hp2 => ?_, h3⟩
      by_cases e : p = k
      · subst e; exact hd
      · exact h2 p (by omega) hp2

theorem fin_le (text : ByteArray) (k : Nat) (h : k ≤ text.size) : fin text k ≤ text.size := (fin_facts text _ k rfl h).1
theorem fin_in (text : ByteArray) (k p : Nat) (h : k ≤ text.size) (h1 : k ≤ p) (h2 : p < fin text k) : isD (bt text p) = false := (fin_facts text _ k rfl h).2.1 p h1 h2
theorem fin_at (text : ByteArray) (k : Nat) (h : k ≤ text.size) (h1 : fin text k < text.size) : isD (bt text (fin text k)) = true := (fin_facts text _ k rfl h).2.2 h1

/-- Is there a date, a blank and a digit at i? -/
def date (text : ByteArray) (i : Nat) : Bool := decide (i + 11 < text.size) && decide (fin text i = i + 10) && bt text (i + 4) == 45 && bt text (i + 10) == 32 && isN (bt text (i + 11))

/-- Where skipScalar ends. -/
def res (text : ByteArray) (i : Nat) : Nat :=
  if text.size ≤ i then i else if isD (bt text i) then i + 1 else if date text i then fin text (i + 11) else fin text i

end Go.Proofs.Qxb6605384a.Sc
