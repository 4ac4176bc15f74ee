import Derived.Test.Qxb6604484aFmtFoSec
namespace Go.Proofs.Qxb6604484aFmt.Fo
open Go.RowKit Go.Maps Go.WideShapes Go.WideMaps Go.Extern.Stop Go.Stop Go.Extern
set_option linter.unusedVariables false
set_option maxRecDepth 100000

def emp : ByteArray := ⟨#[]⟩

set_option maxHeartbeats 1600000 in
/-- (*Section).Str where an integer is held. -/
theorem str_int (F : Interp) (b m : Nat) (key base sk sv ik : ByteArray) (iv : Int) (w : World) (hF : F.answers w.tape) (h1 : key.size ≤ 65536) (h2 : ik.size ≤ 65536) (S : Sec b m key base (held sk sv ik iv) w) :
    Calls Tryf.prog 30 #[.pointer (some ⟨b, 0, none⟩), .string ik] w fun e w' =>
      ∃ q msg, e = .returned (.tuple #[.string emp, .bool false, .iface 52 (.pointer (some ⟨q, 0, none⟩))]) ∧ w'.cell? ⟨q, 0, none⟩ = some (.string (full key ik)) ∧ w'.cell? ⟨q, 1, none⟩ = some (.string msg) ∧ Below m w w' := by
  have HL : Hid (Calls Tryf.prog 35 #[.pointer (some ⟨b, 0, none⟩), .string ik] w fun e w' => e = .returned (.tuple #[.iface 2 (.int .i64 iv), .bool true]) ∧ w'.cell? ⟨b, 1, none⟩ = some (.string key) ∧ Below m w w') := by
    refine (lookup_walk b m key base ik _ w h2 S).mono ?_
    rintro e w' ⟨v, ps, rfl, hv, c1, c2, hb⟩
    obtain ⟨e1, e2⟩ := held_int sk sv ik iv
    rw [e1] at hv
    rw [e2, anyElem_int_inv hv]
    exact ⟨rfl, c1, hb⟩
  have HW : Hid (∀ w' : World, Below m w w' → w'.cell? ⟨b, 1, none⟩ = some (.string key) → Calls Tryf.prog 36 #[.pointer (some ⟨b, 0, none⟩), .string ik, .string ⟨#[97, 32, 115, 116, 114, 105, 110, 103]⟩, .iface 2 (.int .i64 iv)] w' fun e w'' => ∃ q msg, e = .returned (.iface 52 (.pointer (some ⟨q, 0, none⟩))) ∧ w''.cell? ⟨q, 0, none⟩ = some (.string (full key ik)) ∧ w''.cell? ⟨q, 1, none⟩ = some (.string msg) ∧ Below m w w'') := by
    intro w' hb c1
    refine (wrongType F key ik iv b w' (by rw [hb.tape]; exact hF) h1 h2 c1).mono ?_
    rintro e w'' ⟨q, msg, rfl, a1, a2, a3⟩
    have hm : m < w.heap.size := S.own.lt
    exact ⟨q, msg, rfl, a1, a2, hb.trans (a3.mono (by have := hb.size; omega))⟩
  obtain ⟨R, hR⟩ : ∃ R, full key ik = R := ⟨_, rfl⟩
  rw [hR] at HW ⊢
  clear hR h1 h2 hF S
  go_enter Tryf.func30, Tryf.ntmps30
  go_wp2_with (first | (go_at_call 35; refine HL.out.mono ?_; rintro e w1 ⟨rfl, c1, hb⟩) | (go_at_call 36; refine (HW.out _ hb c1).mono ?_; rintro e w2 ⟨q, msg, rfl, a1, a2, a3⟩))
  go_ret3
  exact ⟨q, msg, rfl, a1, a2, a3⟩

set_option maxHeartbeats 1600000 in
/-- .. where a string is held. -/
theorem str_str (b m : Nat) (key base sk sv ik : ByteArray) (iv : Int) (w : World) (h2 : sk.size ≤ 65536) (hne : sk ≠ ik) (S : Sec b m key base (held sk sv ik iv) w) :
    Calls Tryf.prog 30 #[.pointer (some ⟨b, 0, none⟩), .string sk] w fun e w' =>
      e = .returned (.tuple #[.string sv, .bool true, .nilIface]) ∧ w'.cell? ⟨b, 1, none⟩ = some (.string key) ∧ w'.cell? ⟨b, 2, none⟩ = some (.string base) ∧ Below m w w' := by
  have HL : Hid (Calls Tryf.prog 35 #[.pointer (some ⟨b, 0, none⟩), .string sk] w fun e w' => e = .returned (.tuple #[.iface 9 (.string sv), .bool true]) ∧ w'.cell? ⟨b, 1, none⟩ = some (.string key) ∧ w'.cell? ⟨b, 2, none⟩ = some (.string base) ∧ Below m w w') := by
    refine (lookup_walk b m key base sk _ w h2 S).mono ?_
    rintro e w' ⟨v, ps, rfl, hv, c1, c2, hb⟩
    obtain ⟨e1, e2⟩ := held_str sk sv ik iv hne
    rw [e1] at hv
    rw [e2, anyElem_str_inv hv]
    exact ⟨rfl, c1, c2, hb⟩
  clear h2 hne S
  go_enter Tryf.func30, Tryf.ntmps30
  go_wp2_with (first | (go_at_call 35; refine HL.out.mono ?_; rintro e w1 ⟨rfl, c1, c2, hb⟩))
  go_ret3
  exact ⟨rfl, c1, c2, hb⟩

set_option maxHeartbeats 1600000 in
/-- .. where nothing is held. -/
theorem str_none (b m : Nat) (key base sk sv ik k : ByteArray) (iv : Int) (w : World) (h2 : k.size ≤ 65536) (hne : k ≠ ik) (hne' : k ≠ sk) (S : Sec b m key base (held sk sv ik iv) w) :
    Calls Tryf.prog 30 #[.pointer (some ⟨b, 0, none⟩), .string k] w fun e w' =>
      e = .returned (.tuple #[.string emp, .bool false, .nilIface]) ∧ w'.cell? ⟨b, 1, none⟩ = some (.string key) ∧ w'.cell? ⟨b, 2, none⟩ = some (.string base) ∧ Below m w w' := by
  have HL : Hid (Calls Tryf.prog 35 #[.pointer (some ⟨b, 0, none⟩), .string k] w fun e w' => e = .returned (.tuple #[.nilIface, .bool false]) ∧ w'.cell? ⟨b, 1, none⟩ = some (.string key) ∧ w'.cell? ⟨b, 2, none⟩ = some (.string base) ∧ Below m w w') := by
    refine (lookup_walk b m key base k _ w h2 S).mono ?_
    rintro e w' ⟨v, ps, rfl, hv, c1, c2, hb⟩
    obtain ⟨e1, e2⟩ := held_none sk sv ik k iv hne hne'
    rw [e1] at hv
    rw [e2, anyElem_nil_inv hv]
    exact ⟨rfl, c1, c2, hb⟩
  clear h2 hne hne' S
  go_enter Tryf.func30, Tryf.ntmps30
  go_wp2_with (first | (go_at_call 35; refine HL.out.mono ?_; rintro e w1 ⟨rfl, c1, c2, hb⟩))
  go_ret3
  exact ⟨rfl, c1, c2, hb⟩

end Go.Proofs.Qxb6604484aFmt.Fo
