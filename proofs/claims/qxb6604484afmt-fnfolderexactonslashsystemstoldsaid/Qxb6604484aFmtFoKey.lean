import Derived.Test.Qxb6604484aFmtClWalk
import Derived.Test.Qxb6604484aFmtShelf
import Derived.Lib.CleanSame
import Derived.WalkKit
import Derived.WalkSpells
import Derived.Below
import Derived.Outline
import Derived.Laws.IdiomStrings
namespace Go.Proofs.Qxb6604484aFmt.Fo
open Go.RowKit
set_option linter.unusedVariables false

def dot : ByteArray := ⟨#[46]⟩
def slash : ByteArray := ⟨#[47]⟩

/-- Is the text empty? -/
theorem isE (s : ByteArray) : s.toList.isEmpty = decide (s.size = 0) := by
  rw [ByteArray.toList_eq]
  cases s with | mk d => cases d with | mk l => cases l <;> simp [ByteArray.size]

theorem size_zero {s : ByteArray} (h : s.size = 0) : s = ⟨#[]⟩ := by
  cases s with | mk d => cases d with | mk l => simp [ByteArray.size] at h; subst h; rfl

/-- The full dotted key. -/
def full (key k : ByteArray) : ByteArray := if key.size = 0 then k else key ++ dot ++ k

set_option maxHeartbeats 1600000 in
theorem fullKey (key k : ByteArray) (w : World) (h1 : key.size ≤ 65536) (h2 : k.size ≤ 65536) :
    Calls Tryf.prog 22 #[.string key, .string k] w fun e w' => e = .returned (.string (full key k)) ∧ w' = w := by
  by_cases h : key.size = 0
  · have e : full key k = k := by unfold full; rw [if_pos h]
    rw [e]
    have hne : key.toList.isEmpty = true := by rw [isE]; exact decide_eq_true h
    clear e h
    go_enter Tryf.func22, Tryf.ntmps22
    go_wp2
    go_ret
    exact ⟨rfl, rfl⟩
  · have e : full key k = key ++ dot ++ k := by unfold full; rw [if_neg h]
    rw [e]
    have hne : key.toList.isEmpty = false := by rw [isE]; exact decide_eq_false h
    clear e h
    go_enter Tryf.func22, Tryf.ntmps22
    go_wp2
    go_ret
    exact ⟨rfl, rfl⟩

set_option maxHeartbeats 1600000 in
/-- (*Section).path, the section's block at b. -/
theorem path (key k : ByteArray) (b : Nat) (w : World) (h1 : key.size ≤ 65536) (h2 : k.size ≤ 65536) (hc : w.cell? ⟨b, 1, none⟩ = some (.string key)) :
    Calls Tryf.prog 33 #[.pointer (some ⟨b, 0, none⟩), .string k] w fun e w' => e = .returned (.string (full key k)) ∧ w' = w := by
  by_cases h : key.size = 0
  · have e : full key k = k := by unfold full; rw [if_pos h]
    rw [e]
    have hne : key.toList.isEmpty = true := by rw [isE]; exact decide_eq_true h
    clear e h
    go_enter Tryf.func33, Tryf.ntmps33
    go_wp2
    go_ret
    exact ⟨rfl, rfl⟩
  · have e : full key k = key ++ dot ++ k := by unfold full; rw [if_neg h]
    rw [e]
    have hne : key.toList.isEmpty = false := by rw [isE]; exact decide_eq_false h
    clear e h
    go_enter Tryf.func33, Tryf.ntmps33
    go_wp2
    go_ret
    exact ⟨rfl, rfl⟩

/-- The folder as Join has it. -/
def whole (base v : ByteArray) : ByteArray := if v.data.toList.head? = some 47 ∨ base.size = 0 then v else base ++ slash ++ v

def resolved (base v : ByteArray) : ByteArray := ⟨(Go.Lib.Pa.cleanEls (whole base v).data.toList).toArray⟩

theorem head_at (v : ByteArray) (h : 0 < v.size) : v.data.toList.head? = some v[0] := by
  cases v with | mk d => cases d with | mk l => cases l with
    | nil => simp [ByteArray.size] at h
    | cons x r => rfl

set_option maxHeartbeats 1600000 in
theorem resolve (base v : ByteArray) (w : World) (h1 : base.size ≤ 65536) (h2 : v.size ≤ 65536) (h3 : 0 < v.size) :
    Calls Tryf.prog 25 #[.string base, .string v] w fun e w' => e = .returned (.string (resolved base v)) ∧ Below w.heap.size w w' := by
  have hh := head_at v h3
  by_cases hs : v[0] = 47
  · have e : resolved base v = ⟨(Go.Lib.Pa.cleanEls v.data.toList).toArray⟩ := by unfold resolved whole; rw [if_pos (Or.inl (by rw [hh, hs]))]
    have hq : (((v[0].toNat : Nat) : Int) == 47) = true := by rw [hs]; rfl
    have HC : Hid (∀ w, Calls Tryf.prog 27 #[.string v] w fun e w' => e = .returned (.string (resolved base v)) ∧ Below w.heap.size w w') := by rw [e]; exact fun w => Cl.clean_walk v w (by omega)
    clear e hs hh
    obtain ⟨R, hR⟩ : ∃ R, resolved base v = R := ⟨_, rfl⟩
    rw [hR] at HC ⊢
    clear hR
    go_enter Tryf.func25, Tryf.ntmps25
    go_wp2_with (go_at_call 27; refine (HC.out _).mono ?_; rintro e w' ⟨rfl, hg⟩)
    go_ret
    exact ⟨rfl, hg⟩
  · have hq : (((v[0].toNat : Nat) : Int) == 47) = false := by
      rw [beq_eq_false_iff_ne]
      intro hx
      exact hs (UInt8.toNat_inj.1 (by have : v[0].toNat = 47 := by omega
                                      rw [this]; rfl))
    by_cases hb : base.size = 0
    · have e : resolved base v = ⟨(Go.Lib.Pa.cleanEls v.data.toList).toArray⟩ := by unfold resolved whole; rw [if_pos (Or.inr hb)]
      have hne : base.toList.isEmpty = true := by rw [isE]; exact decide_eq_true hb
      have HC : Hid (∀ w, Calls Tryf.prog 27 #[.string v] w fun e w' => e = .returned (.string (resolved base v)) ∧ Below w.heap.size w w') := by rw [e]; exact fun w => Cl.clean_walk v w (by omega)
      clear e hs hh hb
      obtain ⟨R, hR⟩ : ∃ R, resolved base v = R := ⟨_, rfl⟩
      rw [hR] at HC ⊢
      clear hR
      go_enter Tryf.func25, Tryf.ntmps25
      go_wp2_with (go_at_call 27; refine (HC.out _).mono ?_; rintro e w' ⟨rfl, hg⟩)
      go_ret
      exact ⟨rfl, hg⟩
    · have e : resolved base v = ⟨(Go.Lib.Pa.cleanEls (base ++ slash ++ v).data.toList).toArray⟩ := by
        unfold resolved whole
        rw [if_neg]
        rintro (h | h)
        · rw [hh] at h; exact hs (Option.some.inj h)
        · exact hb h
      have hne : base.toList.isEmpty = false := by rw [isE]; exact decide_eq_false hb
      have hsz : (base ++ slash ++ v).size = base.size + 1 + v.size := by simp [ByteArray.size_append, slash]; rfl
      have HC : Hid (∀ w, Calls Tryf.prog 27 #[.string (base ++ slash ++ v)] w fun e w' => e = .returned (.string (resolved base v)) ∧ Below w.heap.size w w') := by
        rw [e]; exact fun w => Cl.clean_walk (base ++ slash ++ v) w (by omega)
      clear e hs hh hb hsz
      obtain ⟨R, hR⟩ : ∃ R, resolved base v = R := ⟨_, rfl⟩
      rw [hR] at HC ⊢
      clear hR
      go_enter Tryf.func25, Tryf.ntmps25
      go_wp2_with (go_at_call 27; refine (HC.out _).mono ?_; rintro e w' ⟨rfl, hg⟩)
      go_ret
      exact ⟨rfl, hg⟩

end Go.Proofs.Qxb6604484aFmt.Fo
