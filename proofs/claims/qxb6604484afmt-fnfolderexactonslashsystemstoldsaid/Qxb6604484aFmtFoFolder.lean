import Derived.Test.Qxb6604484aFmtFoStr
import Derived.Test.Qxb6604484aFmtFoAbs
import Derived.BigQuiet
namespace Go.Proofs.Qxb6604484aFmt.Fo
open Go.RowKit Go.Maps Go.WideShapes Go.WideMaps Go.Extern.Stop Go.Stop Go.Extern
set_option linter.unusedVariables false
set_option maxRecDepth 100000

def req : ByteArray := ⟨#[114, 101, 113, 117, 105, 114, 101, 100]⟩

set_option maxHeartbeats 1600000 in
theorem folder_int (F : Interp) (b m : Nat) (key base sk sv ik : ByteArray) (iv : Int) (w : World) (hF : F.answers w.tape) (h1 : key.size ≤ 65536) (h2 : ik.size ≤ 65536) (S : Sec b m key base (held sk sv ik iv) w) :
    Calls Tryf.prog 29 #[.pointer (some ⟨b, 0, none⟩), .string ik] w fun e w' =>
      ∃ q msg, e = .returned (.tuple #[.string emp, .iface 52 (.pointer (some ⟨q, 0, none⟩))]) ∧ w'.cell? ⟨q, 0, none⟩ = some (.string (full key ik)) ∧ w'.cell? ⟨q, 1, none⟩ = some (.string msg) ∧ Below m w w' := by
  have HS : Hid (Calls Tryf.prog 30 #[.pointer (some ⟨b, 0, none⟩), .string ik] w fun e w' =>
      ∃ q msg, e = .returned (.tuple #[.string emp, .bool false, .iface 52 (.pointer (some ⟨q, 0, none⟩))]) ∧ w'.cell? ⟨q, 0, none⟩ = some (.string (full key ik)) ∧ w'.cell? ⟨q, 1, none⟩ = some (.string msg) ∧ Below m w w') := str_int F b m key base sk sv ik iv w hF h1 h2 S
  obtain ⟨R, hR⟩ : ∃ R, full key ik = R := ⟨_, rfl⟩
  rw [hR] at HS ⊢
  clear hR h1 h2 hF S
  go_enter Tryf.func29, Tryf.ntmps29
  go_wp2_with (first | (go_at_call 30; refine HS.out.mono ?_; rintro e w1 ⟨q, msg, rfl, a1, a2, a3⟩))
  go_ret2
  exact ⟨q, msg, rfl, a1, a2, a3⟩

set_option maxHeartbeats 1600000 in
theorem folder_none (b m : Nat) (key base sk sv ik k : ByteArray) (iv : Int) (w : World) (h1 : key.size ≤ 65536) (h2 : k.size ≤ 65536) (hne : k ≠ ik) (hne' : k ≠ sk) (S : Sec b m key base (held sk sv ik iv) w) :
    Calls Tryf.prog 29 #[.pointer (some ⟨b, 0, none⟩), .string k] w fun e w' =>
      ∃ q, e = .returned (.tuple #[.string emp, .iface 52 (.pointer (some ⟨q, 0, none⟩))]) ∧ w'.cell? ⟨q, 0, none⟩ = some (.string (full key k)) ∧ w'.cell? ⟨q, 1, none⟩ = some (.string req) ∧ Below m w w' := by
  have hm : m < w.heap.size := S.own.lt
  have HS : Hid (Calls Tryf.prog 30 #[.pointer (some ⟨b, 0, none⟩), .string k] w fun e w' =>
      e = .returned (.tuple #[.string emp, .bool false, .nilIface]) ∧ Hid (w'.cell? ⟨b, 1, none⟩ = some (.string key)) ∧ Below m w w') :=
    (str_none b m key base sk sv ik k iv w h2 hne hne' S).mono fun e w' ⟨a, c1, c2, hb⟩ => ⟨a, c1, hb⟩
  have HP : Hid (∀ w' : World, w'.cell? ⟨b, 1, none⟩ = some (.string key) → Calls Tryf.prog 33 #[.pointer (some ⟨b, 0, none⟩), .string k] w' fun e w'' => e = .returned (.string (full key k)) ∧ w'' = w') := fun w' c1 => path key k b w' h1 h2 c1
  obtain ⟨R, hR⟩ : ∃ R, full key k = R := ⟨_, rfl⟩
  rw [hR] at HP ⊢
  clear hR h1 h2 hne hne' S
  go_enter Tryf.func29, Tryf.ntmps29
  go_wp2_with (first | (go_at_call 30; refine HS.out.mono ?_; rintro e w1 ⟨rfl, c1, hb⟩) | (go_at_call 33; refine (HP.out _ c1.out).mono ?_; rintro e w2 ⟨rfl, rfl⟩))
  go_ret2
  exact ⟨_, rfl, by go_simp, by unfold req; go_simp, hb.alloc (by have := hb.size; omega) _⟩

set_option maxHeartbeats 1600000 in
theorem folder_empty (b m : Nat) (key base sk sv ik : ByteArray) (iv : Int) (w : World) (h1 : key.size ≤ 65536) (h2 : sk.size ≤ 65536) (hne : sk ≠ ik) (hz : sv.size = 0) (S : Sec b m key base (held sk sv ik iv) w) :
    Calls Tryf.prog 29 #[.pointer (some ⟨b, 0, none⟩), .string sk] w fun e w' =>
      ∃ q, e = .returned (.tuple #[.string emp, .iface 52 (.pointer (some ⟨q, 0, none⟩))]) ∧ w'.cell? ⟨q, 0, none⟩ = some (.string (full key sk)) ∧ w'.cell? ⟨q, 1, none⟩ = some (.string req) ∧ Below m w w' := by
  have hm : m < w.heap.size := S.own.lt
  have HS : Hid (Calls Tryf.prog 30 #[.pointer (some ⟨b, 0, none⟩), .string sk] w fun e w' =>
      e = .returned (.tuple #[.string sv, .bool true, .nilIface]) ∧ Hid (w'.cell? ⟨b, 1, none⟩ = some (.string key)) ∧ Below m w w') :=
    (str_str b m key base sk sv ik iv w h2 hne S).mono fun e w' ⟨a, c1, c2, hb⟩ => ⟨a, c1, hb⟩
  have HP : Hid (∀ w' : World, w'.cell? ⟨b, 1, none⟩ = some (.string key) → Calls Tryf.prog 33 #[.pointer (some ⟨b, 0, none⟩), .string sk] w' fun e w'' => e = .returned (.string (full key sk)) ∧ w'' = w') := fun w' c1 => path key sk b w' h1 h2 c1
  have hze : sv.toList.isEmpty = true := by rw [isE]; exact decide_eq_true hz
  obtain ⟨R, hR⟩ : ∃ R, full key sk = R := ⟨_, rfl⟩
  rw [hR] at HP ⊢
  clear hR h1 h2 hne S hz
  go_enter Tryf.func29, Tryf.ntmps29
  go_wp2_with (first | (go_at_call 30; refine HS.out.mono ?_; rintro e w1 ⟨rfl, c1, hb⟩) | (go_at_call 33; refine (HP.out _ c1.out).mono ?_; rintro e w2 ⟨rfl, rfl⟩))
  go_ret2
  exact ⟨_, rfl, by go_simp, by unfold req; go_simp, hb.alloc (by have := hb.size; omega) _⟩

set_option maxHeartbeats 1600000 in
theorem folder_ok (b m : Nat) (key base sk sv ik : ByteArray) (iv : Int) (w : World) (h1 : base.size ≤ 65536) (h2 : sk.size ≤ 65536) (h3 : sv.size ≤ 65536) (hne : sk ≠ ik) (hz : 0 < sv.size) (S : Sec b m key base (held sk sv ik iv) w) :
    Calls Tryf.prog 29 #[.pointer (some ⟨b, 0, none⟩), .string sk] w fun e w' =>
      e = .returned (.tuple #[.string (resolved base sv), .nilIface]) ∧ Below m w w' := by
  have hm : m < w.heap.size := S.own.lt
  have HS : Hid (Calls Tryf.prog 30 #[.pointer (some ⟨b, 0, none⟩), .string sk] w fun e w' =>
      e = .returned (.tuple #[.string sv, .bool true, .nilIface]) ∧ w'.cell? ⟨b, 2, none⟩ = some (.string base) ∧ Below m w w') :=
    (str_str b m key base sk sv ik iv w h2 hne S).mono fun e w' ⟨a, c1, c2, hb⟩ => ⟨a, c2, hb⟩
  have HP : Hid (∀ w' : World, Calls Tryf.prog 34 #[.string base, .string sv] w' fun e w'' => e = .returned (.string (resolved base sv)) ∧ Below w'.heap.size w' w'') := fun w' => absolute base sv w' h1 h3 hz
  have hze : sv.toList.isEmpty = false := by rw [isE]; exact decide_eq_false (by omega)
  obtain ⟨R, hR⟩ : ∃ R, resolved base sv = R := ⟨_, rfl⟩
  rw [hR] at HP ⊢
  clear hR h1 h2 hne S hz h3
  go_enter Tryf.func29, Tryf.ntmps29
  go_wp2_with (first | (go_at_call 30; refine HS.out.mono ?_; rintro e w1 ⟨rfl, c2, hb⟩) | (go_at_call 34; refine (HP.out _).mono ?_; rintro e w2 ⟨rfl, hb2⟩))
  go_ret2
  exact ⟨rfl, hb.trans (hb2.mono (by have := hb.size; omega))⟩

end Go.Proofs.Qxb6604484aFmt.Fo
