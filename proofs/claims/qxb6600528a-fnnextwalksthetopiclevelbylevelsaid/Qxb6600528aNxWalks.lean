import Derived.Test.Qxb6600528aNxPlain
import Derived.Test.Qxb6600528aShelf
import Derived.WalkKit
import Derived.WalkSpells
import Derived.Below
import Derived.Deep.OwnRows
namespace Go.Proofs.Qxb6600528a.Nx
open Go.RowKit

theorem info3 : (Try.prog.info? 3).map (fun i => (i.zero, i.size, i.bytes)) = some (some (.int .i64 0), 1, 8) := by kernel_rfl

set_option maxHeartbeats 400000 in
theorem clone_nil (w : World) :
    Calls Try.prog 23 #[.slice none 0 0] w fun e w' => e = .returned (.slice none 0 0) ∧ w' = w := by
  have hq := fun (w : World) (a : Option Addr) (n c : Nat) => Lib.run_eql_slice_nil (P := Try.prog) w 31 3 a n c 0 0 Try.underlying31
  go_enter Try.func23, Try.ntmps23
  go_wp2
  go_ret
  exact ⟨rfl, rfl⟩

set_option maxHeartbeats 400000 in
theorem clone_some (x : Addr) (n c : Nat) (f : Nat → Int) (w : World) (hn : n ≤ 1048576) (hcell : ∀ i, i < n → w.cell? (x.add i) = some (.int .i64 (f i))) :
    Calls Try.prog 23 #[.slice (some x) n c] w fun e w' => e = .returned (.slice (some ⟨w.heap.size, 0, none⟩) n n) ∧ w'.rowIs w.heap.size 3 n (fun i => .int .i64 (f i)) ∧ Below w.heap.size w w' := by
  have hq := fun (w : World) (a : Option Addr) (n c : Nat) => Lib.run_eql_slice_nil (P := Try.prog) w 31 3 a n c 0 0 Try.underlying31
  have hmk := fun (w : World) => run_make_row' (P := Try.prog) 31 3 (.int .i64 0) 8 Try.underlying31 info3 rfl .i64 .i64 n (by omega) (by omega) w
  go_enter Try.func23, Try.ntmps23
  go_wp2
  go_loopw [4] (fun i wr => ∃ k : Nat, k ≤ n ∧ i = .int .i64 k ∧ wr.rowIs w.heap.size 3 n (fun j => .int .i64 (if j < k then f j else 0)) ∧ Below w.heap.size w wr) (fun i _ => n - (intOf i).toNat)
  case atStart => exact ⟨0, Nat.zero_le _, rfl, (World.rowIs_made w _ n 3).congr (fun i hi => by simp), (Below.refl _ _).alloc (Nat.le_refl _) _⟩
  case round =>
    obtain ⟨k, hk, rfl, hrow, hb⟩ := hrel
    by_cases hlt : k < n
    · have hc : wr.cell? (x.add k) = some (.int .i64 (f k)) := (hb.cell (World.block_lt_of_cell? _ _ (hcell k hlt))).trans (hcell k hlt)
      have hd := hrow.cell hlt
      have hf := hrow.frozen k
      have R1 := (hrow.set k (.int .i64 (f k))).congr (g := fun j => .int .i64 (if j < k + 1 then f j else 0)) (fun j hj => by
        by_cases e : j = k
        · subst e; simp
        · have : (j < k + 1) = (j < k) := by apply propext; omega
          simp [e, this])
      have R2 := hb.setCell (p := ⟨w.heap.size, k, none⟩) (Nat.le_refl _) (.int .i64 (f k))
      clear hrow hb hcell
      go_wp2
      go_roundw
      case rel => exact ⟨k + 1, by omega, by go_num, R1, R2⟩
      case measure => simp [intOf]; omega
    · have hk2 : k = n := by omega
      subst hk2
      have R1 := hrow.congr (g := fun j => .int .i64 (f j)) (fun j hj => by simp [hj])
      clear hrow
      go_wp2
      go_ret
      exact ⟨rfl, R1, hb⟩

/-- A slice of ints of the call's own: nil, or a whole row. -/
def Src (w : World) (a : Option Addr) (n : Nat) (xs : List Int) : Prop :=
  (a = none ∧ n = 0) ∨ ∃ h, a = some ⟨h, 0, none⟩ ∧ w.rowIs h 3 n (fun i => .int .i64 (xs.getD i 0))

theorem Src.below {w w' : World} {a : Option Addr} {n : Nat} {xs : List Int} (h : Src w a n xs) (hb : Below w.heap.size w w') : Src w' a n xs := by
  rcases h with h | ⟨b, e, hr⟩
  · exact .inl h
  · exact .inr ⟨b, e, hr.of_block (hb.block b hr.lt)⟩

theorem Src.belowB {w w' : World} {B : Nat} {a : Option Addr} {n : Nat} {xs : List Int} (h : Src w a n xs) (hb : Below B w w') (hB : w.heap.size ≤ B) : Src w' a n xs :=
  h.below (hb.mono hB)

/-- The cell of element k, and where it lies. -/
theorem Src.at {w : World} {a : Option Addr} {n : Nat} {xs : List Int} (h : Src w a n xs) {k : Nat} (hk : k < n) :
    ∃ b, a = some ⟨b, 0, none⟩ ∧ b < w.heap.size ∧ w.cell? ⟨b, k, none⟩ = some (.int .i64 (xs.getD k 0)) := by
  rcases h with ⟨_, e⟩ | ⟨b, e, hr⟩
  · omega
  · exact ⟨b, e, hr.lt, hr.cell hk⟩

/-- What the laws are told of a slice of ints that came in. -/
def InI (w : World) (a : Option Addr) (n c : Nat) (zs : List Int) : Prop :=
  (a = none ∧ n = 0 ∧ c = 0) ∨ ∃ x, a = some x ∧ ∀ i, i < n → w.cell? (x.add i) = some (.int .i64 (zs.getD i 0))

theorem InI.below {w w' : World} {a : Option Addr} {n c : Nat} {zs : List Int} (h : InI w a n c zs) (hb : Below w.heap.size w w') : InI w' a n c zs := by
  rcases h with h | ⟨x, e, hc⟩
  · exact .inl h
  · exact .inr ⟨x, e, fun i hi => (hb.cell (World.block_lt_of_cell? _ _ (hc i hi))).trans (hc i hi)⟩

theorem clone_u (a : Option Addr) (n c : Nat) (zs : List Int) (w : World) (hn : n ≤ 1048576) (h : InI w a n c zs) :
    Calls Try.prog 23 #[.slice a n c] w fun e w' => ∃ a', e = .returned (.slice a' n n) ∧ Src w' a' n zs ∧ Below w.heap.size w w' := by
  rcases h with ⟨rfl, rfl, rfl⟩ | ⟨x, rfl, hc⟩
  · refine (clone_nil w).mono ?_
    rintro e w' ⟨rfl, rfl⟩
    exact ⟨none, rfl, .inl ⟨rfl, rfl⟩, Below.refl _ _⟩
  · refine (clone_some x n c (fun i => zs.getD i 0) w hn hc).mono ?_
    rintro e w' ⟨rfl, hr, hb⟩
    exact ⟨_, rfl, .inr ⟨_, rfl, hr⟩, hb⟩

theorem ret_bool {a b : Bool} (h : a = b) : Ending.returned (.bool a) = .returned (.bool b) := by rw [h]

set_option maxHeartbeats 800000 in
theorem within_any (a0 a1 : Option Addr) (n0 n1 m : Nat) (s e : List Int) (a b : Int) (w : World) (h0 : Src w a0 n0 s) (h1 : Src w a1 n1 e) (b0 : n0 ≤ 1048576) (b1 : n1 ≤ 1048576) (hm0 : m ≤ n0) (hm1 : m ≤ n1) (hm : m = n0 ∨ m = n1) :
    Calls Try.prog 26 #[.slice a0 n0 n0, .slice a1 n1 n1, .int .i64 a, .int .i64 b] w fun e' w' => e' = .returned (.bool (within s e m a b)) ∧ w' = w := by
  have H0 : Hid (Src w a0 n0 s) := h0
  have H1 : Hid (Src w a1 n1 e) := h1
  clear h0 h1
  have key : n1 < n0 ∧ m = n1 ∨ ¬ n1 < n0 ∧ m = n0 := by omega
  clear hm
  rcases key with ⟨hl, rfl⟩ | ⟨hl, rfl⟩
  all_goals
    go_enter Try.func26, Try.ntmps26
    go_wp2
    go_loop [10] (fun i => ∃ k : Nat, k ≤ m ∧ i = .int .i64 k ∧ within s e k a b = false) (fun i => m - (intOf i).toNat)
    case atStart => exact ⟨0, Nat.zero_le _, rfl, rfl⟩
    case round =>
      obtain ⟨k, hk, rfl, hw⟩ := hrel
      have HW : Hid (within s e k a b = false) := hw
      clear hw
      by_cases hlt : k < m
      · obtain ⟨x0, rfl, _, c0⟩ := H0.out.at (k := k) (by omega)
        obtain ⟨x1, rfl, _, c1⟩ := H1.out.at (k := k) (by omega)
        have Y : Hid (a ≤ s.getD k 0 → e.getD k 0 ≤ b → within s e m a b = true) := within_yes s e k m a b hlt
        have N : Hid (¬ (a ≤ s.getD k 0 ∧ e.getD k 0 ≤ b) → within s e (k + 1) a b = false) := within_no s e k a b HW.out
        obtain ⟨v0, g0⟩ : ∃ v, s.getD k 0 = v := ⟨_, rfl⟩
        obtain ⟨v1, g1⟩ : ∃ v, e.getD k 0 = v := ⟨_, rfl⟩
        rw [g0, g1] at Y N
        rw [g0] at c0
        rw [g1] at c1
        clear g0 g1
        by_cases t1 : a ≤ v0
        · by_cases t2 : v1 ≤ b
          · go_wp2
            go_ret
            exact ⟨ret_bool (Y.out t1 t2).symm, rfl⟩
          · go_wp2
            go_round
            case rel => exact ⟨k + 1, by omega, by go_num, N.out (by omega)⟩
            case measure => simp [intOf]; omega
        · go_wp2
          go_round
          case rel => exact ⟨k + 1, by omega, by go_num, N.out (by omega)⟩
          case measure => simp [intOf]; omega
      · have hk2 : k = m := by omega
        subst hk2
        go_wp2
        go_ret
        exact ⟨ret_bool HW.out.symm, rfl⟩
end Go.Proofs.Qxb6600528a.Nx
