import Derived.Test.Qxb6600528aNxWalks
import Derived.Outline
namespace Go.Proofs.Qxb6600528a.Nx
open Go.RowKit

set_option maxHeartbeats 800000 in
theorem holeIn_some (t h n c : Nat) (s e : List Int) (a b : Int) (w : World) (hn : n ≤ 1048576)
    (ht : w.cell? ⟨t, 2, none⟩ = some (.slice (some ⟨h, 0, none⟩) n c))
    (hc : ∀ i, i < n → w.cell? ⟨h, i * 3, none⟩ = some (.int .i64 (s.getD i 0)) ∧ w.cell? ⟨h, i * 3 + 1, none⟩ = some (.int .i64 (e.getD i 0)) ∧ w.cell? ⟨h, i * 3 + 2, none⟩ = some (.int .i64 0)) :
    Calls Try.prog 41 #[.pointer (some ⟨t, 0, none⟩), .int .i64 a, .int .i64 b] w fun e' w' => e' = .returned (.bool (within s e n a b)) ∧ Below w.heap.size w w' := by
  have HC : Hid (∀ i, i < n → w.cell? ⟨h, i * 3, none⟩ = some (.int .i64 (s.getD i 0)) ∧ w.cell? ⟨h, i * 3 + 1, none⟩ = some (.int .i64 (e.getD i 0)) ∧ w.cell? ⟨h, i * 3 + 2, none⟩ = some (.int .i64 0)) := hc
  clear hc
  go_enter Try.func41, Try.ntmps41
  go_wp2
  go_loopw [14] (fun i wr => ∃ k : Nat, k ≤ n ∧ i = .int .i64 k ∧ within s e k a b = false ∧ Below w.heap.size w wr) (fun i _ => n - (intOf i).toNat)
  case atStart => exact ⟨0, Nat.zero_le _, rfl, rfl, Below.refl _ _⟩
  case round =>
    obtain ⟨k, hk, rfl, hw, hb⟩ := hrel
    have HW : Hid (within s e k a b = false) := hw
    clear hw
    by_cases hlt : k < n
    · obtain ⟨c0, c1, c2⟩ := HC.out k hlt
      have c0 := (hb.cell (p := ⟨h, k * 3, none⟩) (World.block_lt_of_cell? _ _ c0)).trans c0
      have c1 := (hb.cell (p := ⟨h, k * 3 + 1, none⟩) (World.block_lt_of_cell? _ _ c1)).trans c1
      have c2 := (hb.cell (p := ⟨h, k * 3 + 2, none⟩) (World.block_lt_of_cell? _ _ c2)).trans c2
      have Y : Hid (a ≤ s.getD k 0 → e.getD k 0 ≤ b → within s e n a b = true) := within_yes s e k n a b hlt
      have N : Hid (¬ (a ≤ s.getD k 0 ∧ e.getD k 0 ≤ b) → within s e (k + 1) a b = false) := within_no s e k a b HW.out
      obtain ⟨v0, g0⟩ : ∃ v, s.getD k 0 = v := ⟨_, rfl⟩
      obtain ⟨v1, g1⟩ : ∃ v, e.getD k 0 = v := ⟨_, rfl⟩
      rw [g0, g1] at Y N
      rw [g0] at c0
      rw [g1] at c1
      have HB : Hid (Below w.heap.size w wr) := hb
      clear g0 g1 hb
      have R : Hid (∀ o, Below w.heap.size w (wr.alloc o)) := fun o => HB.out.alloc HB.out.size o
      clear HB
      by_cases t1 : a ≤ v0
      · by_cases t2 : v1 ≤ b
        · go_wp2
          go_ret
          exact ⟨ret_bool (Y.out t1 t2).symm, R.out _⟩
        · go_wp2
          go_roundw
          case rel => exact ⟨k + 1, by omega, by go_num, N.out (by omega), R.out _⟩
          case measure => simp [intOf]; omega
      · go_wp2
        go_roundw
        case rel => exact ⟨k + 1, by omega, by go_num, N.out (by omega), R.out _⟩
        case measure => simp [intOf]; omega
    · have hk2 : k = n := by omega
      subst hk2
      go_wp2
      go_ret
      exact ⟨ret_bool HW.out.symm, hb⟩

set_option maxHeartbeats 800000 in
theorem holeIn_nil (t : Nat) (s e : List Int) (a b : Int) (w : World) (ht : w.cell? ⟨t, 2, none⟩ = some (.slice none 0 0)) :
    Calls Try.prog 41 #[.pointer (some ⟨t, 0, none⟩), .int .i64 a, .int .i64 b] w fun e' w' => e' = .returned (.bool (within s e 0 a b)) ∧ Below w.heap.size w w' := by
  go_enter Try.func41, Try.ntmps41
  go_wp2
  go_loop [14] (fun i => i = .int .i64 0) (fun _ => 0)
  case atStart => exact rfl
  case round =>
    subst hrel
    go_wp2
    go_ret
    exact ⟨rfl, Below.refl _ _⟩
end Go.Proofs.Qxb6600528a.Nx
