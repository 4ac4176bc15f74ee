import Derived.Test.Qxb6604484aFmtFoZZ
import Derived.Test.Qxb6604484aFmtFoSmall
namespace Go.Proofs.Qxb6604484aFmt.Fo
open Go.RowKit Go.Extern.Stop Go.Stop Go.Extern
set_option linter.unusedVariables false
set_option maxRecDepth 100000

theorem bytes_some (a b c d e k : ByteArray) (iv : Int) (w : World) (Q : Ending → World → Prop) (h : ∀ r : Bool, Q (.returned (.bool r)) w) :
    Calls Tryf.prog 23 #[.string a, .string b, .string c, .string d, .string e, .int .i64 iv, .string k] w Q :=
  (bytes_any a b c d e k iv w).mono fun x w' ⟨⟨r, hr⟩, hw⟩ => by subst hr; subst hw; exact h r

set_option maxHeartbeats 1600000 in
/-- A text too long. -/
theorem law_long (key base sk sv ik k : ByteArray) (iv : Int) (w : World)
    (h : 65536 < key.size ∨ 65536 < base.size ∨ 65536 < sk.size ∨ 65536 < sv.size ∨ 65536 < ik.size ∨ 65536 < k.size) :
    Calls Tryf.prog 6 #[.string key, .string base, .string sk, .string sv, .string ik, .int .i64 iv, .string k] w fun e w' => e = .returned (.bool true) ∧ w' = w := by
  have HB : Hid (∀ (Q : Ending → World → Prop), (∀ r : Bool, Q (.returned (.bool r)) w) → Calls Tryf.prog 23 #[.string key, .string base, .string sk, .string sv, .string ik, .int .i64 iv, .string k] w Q) := bytes_some key base sk sv ik k iv w
  by_cases h1 : 65536 < key.size
  · clear h
    go_enter Tryf.func6, Tryf.ntmps6
    go_wp2_with (go_at_call 23; refine HB.out _ ?_; intro r; cases r)
    all_goals
      go_ret
      exact ⟨rfl, rfl⟩
  by_cases h2 : 65536 < base.size
  · clear h
    go_enter Tryf.func6, Tryf.ntmps6
    go_wp2_with (go_at_call 23; refine HB.out _ ?_; intro r; cases r)
    all_goals
      go_ret
      exact ⟨rfl, rfl⟩
  by_cases h3 : 65536 < sk.size
  · clear h
    go_enter Tryf.func6, Tryf.ntmps6
    go_wp2_with (go_at_call 23; refine HB.out _ ?_; intro r; cases r)
    all_goals
      go_ret
      exact ⟨rfl, rfl⟩
  by_cases h4 : 65536 < sv.size
  · clear h
    go_enter Tryf.func6, Tryf.ntmps6
    go_wp2_with (go_at_call 23; refine HB.out _ ?_; intro r; cases r)
    all_goals
      go_ret
      exact ⟨rfl, rfl⟩
  by_cases h5 : 65536 < ik.size
  · clear h
    go_enter Tryf.func6, Tryf.ntmps6
    go_wp2_with (go_at_call 23; refine HB.out _ ?_; intro r; cases r)
    all_goals
      go_ret
      exact ⟨rfl, rfl⟩
  have h6 : 65536 < k.size := by omega
  clear h
  go_enter Tryf.func6, Tryf.ntmps6
  go_wp2_with (go_at_call 23; refine HB.out _ ?_; intro r; cases r)
  all_goals
    go_ret
    exact ⟨rfl, rfl⟩

end Go.Proofs.Qxb6604484aFmt.Fo
