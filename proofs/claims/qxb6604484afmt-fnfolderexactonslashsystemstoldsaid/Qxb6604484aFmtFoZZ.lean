import Derived.Test.Qxb6604484aFmtFoFolder
import Derived.BigQuiet
import Derived.Deep.QuietTactic
namespace Go.Proofs.Qxb6604484aFmt.Fo
open Go.RowKit
set_option linter.unusedVariables false
set_option maxRecDepth 100000

theorem results_tmp5 {fn : Func} {a b c d e : Tmp} (h : fn.results = #[.tmp a, .tmp b, .tmp c, .tmp d, .tmp e]) (tmps : Array Value) (P : Program) (w : World) :
    (results fn tmps).run P w = .ok (.tuple #[tmps.getD a undef, tmps.getD b undef, tmps.getD c undef, tmps.getD d undef, tmps.getD e undef]) w := by
  simp [results, h]

set_option maxHeartbeats 1600000 in
theorem zz_err (w : World) (m : Nat) (sp : Value) (k R : ByteArray) (P : ByteArray → Prop)
    (H : Hid (Calls Tryf.prog 29 #[sp, .string k] w fun e w' => ∃ q msg, e = .returned (.tuple #[.string emp, .iface 52 (.pointer (some ⟨q, 0, none⟩))]) ∧ w'.cell? ⟨q, 0, none⟩ = some (.string R) ∧ w'.cell? ⟨q, 1, none⟩ = some (.string msg) ∧ Hid (P msg) ∧ Below m w w')) :
    Calls Tryf.prog 11 #[sp, .string k] w fun e w' => ∃ msg, e = .returned (.tuple #[.string emp, .bool false, .bool true, .string R, .string msg]) ∧ P msg ∧ Below m w w' := by
  go_enter Tryf.func11, Tryf.ntmps11
  go_wp2_with (first | (go_at_call 29; refine H.out.mono ?_; rintro e w1 ⟨q, msg, rfl, c0, c1, hp, hb⟩))
  go_quiet (fail)
  go_wp2
  refine bodyPost_ret (results_tmp5 rfl _ _ _) rfl ?_
  exact ⟨msg, rfl, hp.out, below_drewN hb nq⟩

set_option maxHeartbeats 1600000 in
theorem zz_ok (w : World) (m : Nat) (sp : Value) (k R : ByteArray)
    (H : Hid (Calls Tryf.prog 29 #[sp, .string k] w fun e w' => e = .returned (.tuple #[.string R, .nilIface]) ∧ Below m w w')) :
    Calls Tryf.prog 11 #[sp, .string k] w fun e w' => e = .returned (.tuple #[.string R, .bool true, .bool false, .string emp, .string emp]) ∧ Below m w w' := by
  go_enter Tryf.func11, Tryf.ntmps11
  go_wp2_with (first | (go_at_call 29; refine H.out.mono ?_; rintro e w1 ⟨rfl, hb⟩))
  go_quiet (fail)
  go_wp2
  refine bodyPost_ret (results_tmp5 rfl _ _ _) rfl ?_
  exact ⟨rfl, below_drewN hb nq⟩

end Go.Proofs.Qxb6604484aFmt.Fo
