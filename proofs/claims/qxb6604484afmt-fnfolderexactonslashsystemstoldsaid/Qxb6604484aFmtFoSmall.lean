import Derived.Test.Qxb6604484aFmtClWalk
import Derived.Test.Qxb6604484aFmtShelf
import Derived.Lib.CleanSame
import Derived.WalkKit
import Derived.WalkSpells
import Derived.Below
import Derived.Outline
import Derived.Stop.CallBack
import Derived.Stop.IfaceNil
namespace Go.Proofs.Qxb6604484aFmt.Fo
open Go.RowKit
set_option linter.unusedVariables false

set_option maxHeartbeats 1600000 in
/-- zzBytes: it answers a bool, and nothing turns. -/
theorem bytes_any (a b c d e k : ByteArray) (iv : Int) (w : World) :
    Calls Tryf.prog 23 #[.string a, .string b, .string c, .string d, .string e, .int .i64 iv, .string k] w fun x w' => (∃ r, x = .returned (.bool r)) ∧ w' = w := by
  by_cases h1 : 1048576 < a.size
  · go_enter Tryf.func23, Tryf.ntmps23
    go_wp2
    go_ret
    exact ⟨⟨_, rfl⟩, rfl⟩
  by_cases h2 : 1048576 < b.size
  · go_enter Tryf.func23, Tryf.ntmps23
    go_wp2
    go_ret
    exact ⟨⟨_, rfl⟩, rfl⟩
  by_cases h3 : 1048576 < a.size + b.size
  · go_enter Tryf.func23, Tryf.ntmps23
    go_wp2
    go_ret
    exact ⟨⟨_, rfl⟩, rfl⟩
  by_cases h4 : 1048576 < c.size
  · go_enter Tryf.func23, Tryf.ntmps23
    go_wp2
    go_ret
    exact ⟨⟨_, rfl⟩, rfl⟩
  by_cases h5 : 1048576 < a.size + b.size + c.size
  · go_enter Tryf.func23, Tryf.ntmps23
    go_wp2
    go_ret
    exact ⟨⟨_, rfl⟩, rfl⟩
  by_cases h6 : 1048576 < d.size
  · go_enter Tryf.func23, Tryf.ntmps23
    go_wp2
    go_ret
    exact ⟨⟨_, rfl⟩, rfl⟩
  by_cases h7 : 1048576 < a.size + b.size + c.size + d.size
  · go_enter Tryf.func23, Tryf.ntmps23
    go_wp2
    go_ret
    exact ⟨⟨_, rfl⟩, rfl⟩
  by_cases h8 : 1048576 < e.size
  · go_enter Tryf.func23, Tryf.ntmps23
    go_wp2
    go_ret
    exact ⟨⟨_, rfl⟩, rfl⟩
  by_cases h9 : 1048576 < a.size + b.size + c.size + d.size + e.size
  · go_enter Tryf.func23, Tryf.ntmps23
    go_wp2
    go_ret
    exact ⟨⟨_, rfl⟩, rfl⟩
  by_cases h10 : 1048576 < k.size
  · go_enter Tryf.func23, Tryf.ntmps23
    go_wp2
    go_ret
    exact ⟨⟨_, rfl⟩, rfl⟩
  by_cases h11 : 1048576 < a.size + b.size + c.size + d.size + e.size + k.size
  · go_enter Tryf.func23, Tryf.ntmps23
    go_wp2
    go_ret
    exact ⟨⟨_, rfl⟩, rfl⟩
  go_enter Tryf.func23, Tryf.ntmps23
  go_wp2
  go_ret
  exact ⟨⟨_, rfl⟩, rfl⟩

end Go.Proofs.Qxb6604484aFmt.Fo
