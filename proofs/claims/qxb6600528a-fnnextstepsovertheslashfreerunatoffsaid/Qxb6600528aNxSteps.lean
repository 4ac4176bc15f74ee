import Derived.Test.Qxb6600528aNxFacts
namespace Go.Proofs.Qxb6600528a.Nx
open Go.RowKit
set_option linter.unusedVariables false

set_option maxHeartbeats 800000 in
theorem zz_none (pl off : Int) (w : World) :
    Calls Try.prog 24 #[.int .i64 pl, .int .i64 off] w fun e w' =>
      e = .returned (.tuple #[.string ByteArray.empty, .bool false, .int .i64 pl, .int .i64 off, .bool true, .bool false]) ∧ Below w.heap.size w w' := by
  go_enter Try.func24, Try.ntmps24
  go_wp2_with fail
  refine (next_none pl off _).mono ?_
  rintro e w5 ⟨rfl, hb5⟩
  have HB5 : Hid (∀ o5 n, Below w.heap.size w ((w5.alloc o5).drewN n)) := fun o5 n => by
    have h1 := (Below.refl w.heap.size w).alloc (Nat.le_refl _) (.cells #[.int .i64 pl, .pointer none, .int .i64 off] 52)
    have h2 := h1.trans (hb5.mono h1.size)
    exact below_drawn (h2.alloc h2.size _) _
  clear hb5
  go_wp2_with fail
  go_quiet (fail)
  go_wp2
  refine bodyPost_ret (v := .tuple #[.string ByteArray.empty, .bool false, .int .i64 pl, .int .i64 off, .bool true, .bool false]) ?_ rfl ⟨rfl, ?_⟩
  · simp [results, Try.results24, go_sem]
  · exact HB5.out _ _

set_option maxRecDepth 100000 in
set_option maxHeartbeats 1600000 in
theorem steps_short (pl : Int) (text : ByteArray) (lit : Bool) (a3 : Option Addr) (n3 c3 : Nat) (a4 : Option Addr) (n4 c4 : Nat) (off : Int) (w : World) (b1 : text.size ≤ 9223372036854775807) (b3 : n3 ≤ 9223372036854775807) (b4 : n4 ≤ 9223372036854775807)
    (h : 1048576 < text.size + 8 * n3 + 8 * n4 ∨ 65536 < text.size ∨ 65536 < n3 ∨ 65536 < n4 ∨ off < 0) :
    Calls Try.prog 8 #[.int .i64 pl, .string text, .bool lit, .slice a3 n3 c3, .slice a4 n4 c4, .int .i64 off] w fun e w' => e = .returned (.bool true) ∧ w' = w := by
  by_cases h1 : (1048576 : Int) < text.size
  · clear h
    go_enter Try.func8, Try.ntmps8
    go_wp2
    go_ret
    exact ⟨rfl, rfl⟩
  by_cases h2 : (1048576 : Int) < n3
  · clear h
    go_enter Try.func8, Try.ntmps8
    go_wp2
    go_ret
    exact ⟨rfl, rfl⟩
  by_cases h3 : (1048576 : Int) < text.size + n3
  · clear h
    go_enter Try.func8, Try.ntmps8
    go_wp2
    go_ret
    exact ⟨rfl, rfl⟩
  by_cases h4 : (1048576 : Int) < n4
  · clear h
    go_enter Try.func8, Try.ntmps8
    go_wp2
    go_ret
    exact ⟨rfl, rfl⟩
  by_cases h5 : (1048576 : Int) < text.size + n3 + n4
  · clear h
    go_enter Try.func8, Try.ntmps8
    go_wp2
    go_ret
    exact ⟨rfl, rfl⟩
  by_cases h6 : (1048576 : Int) < text.size + 8 * n3 + 8 * n4
  · clear h
    go_enter Try.func8, Try.ntmps8
    go_wp2
    go_ret
    exact ⟨rfl, rfl⟩
  by_cases h7 : (65536 : Int) < text.size
  · clear h
    go_enter Try.func8, Try.ntmps8
    go_wp2
    go_ret
    exact ⟨rfl, rfl⟩
  by_cases h8 : (65536 : Int) < n3
  · clear h
    go_enter Try.func8, Try.ntmps8
    go_wp2
    go_ret
    exact ⟨rfl, rfl⟩
  by_cases h9 : (65536 : Int) < n4
  · clear h
    go_enter Try.func8, Try.ntmps8
    go_wp2
    go_ret
    exact ⟨rfl, rfl⟩
  have h10 : off < 0 := by omega
  clear h
  go_enter Try.func8, Try.ntmps8
  go_wp2
  go_ret
  exact ⟨rfl, rfl⟩

end Go.Proofs.Qxb6600528a.Nx
