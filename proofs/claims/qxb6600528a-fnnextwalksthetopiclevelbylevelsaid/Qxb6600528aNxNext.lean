import Derived.Test.Qxb6600528aNxHole
import Derived.Deep.QuietTactic
import Derived.BigQuiet
import Derived.RegionTactic
import Derived.BigRegion
import Derived.Deep.RegionWith
import Derived.Lib.IndexBytes
import Derived.Outline
namespace Go.Proofs.Qxb6600528a.Nx
open Go.RowKit

theorem below_drawn {B : Nat} {a w : World} (h : Below B a w) (n : Nat) : Below B a (w.drewN n) := h.trans ⟨rfl, rfl, rfl, Nat.le_refl _, fun _ _ => rfl⟩

theorem below_three {B b : Nat} {a w : World} (h : Below B a w) (hb : B ≤ b) (x y z : Value) : Below B a (((w.setCell ⟨b, 0, none⟩ x).setCell ⟨b, 1, none⟩ y).setCell ⟨b, 2, none⟩ z) :=
  ((h.setCell hb _).setCell hb _).setCell hb _

set_option maxHeartbeats 800000 in
theorem next_none (pl off : Int) (w : World) :
    Calls Try.prog 35 #[.agg #[.int .i64 pl, .pointer none, .int .i64 off]] w fun e w' =>
      e = .returned (.tuple #[.string ByteArray.empty, .bool false, .agg #[.int .i64 pl, .pointer none, .int .i64 off], .bool false]) ∧ Below w.heap.size w w' := by
  go_enter Try.func35, Try.ntmps35
  go_wp2
  go_quiet (fail)
  go_wp2
  go_region
  all_goals
    go_wp2
    refine bodyPost_ret (v := .tuple #[.string ByteArray.empty, .bool false, .agg #[.int .i64 pl, .pointer none, .int .i64 off], .bool false]) ?_ rfl ⟨rfl, ?_⟩
    · simp [results, Try.results35, go_sem]
      rfl
    · exact below_three (below_drawn (((Below.refl _ _).alloc (Nat.le_refl _) _).alloc (by simp) _) _) (by omega) _ _ _

set_option maxHeartbeats 800000 in
/-- Past the text's end: the entry stays. -/
theorem next_past (pl off : Int) (t : Nat) (text : ByteArray) (w : World) (ht : w.cell? ⟨t, 0, none⟩ = some (.string text)) (ho : (text.size : Int) < off) :
    Calls Try.prog 35 #[.agg #[.int .i64 pl, .pointer (some ⟨t, 0, none⟩), .int .i64 off]] w fun e w' =>
      e = .returned (.tuple #[.string ByteArray.empty, .bool false, .agg #[.int .i64 pl, .pointer (some ⟨t, 0, none⟩), .int .i64 off], .bool false]) ∧ Below w.heap.size w w' := by
  have hlt := World.block_lt_of_cell? _ _ ht
  go_enter Try.func35, Try.ntmps35
  go_wp2
  go_quiet (fail)
  go_wp2
  go_region
  all_goals
    go_wp2
    refine bodyPost_ret (v := .tuple #[.string ByteArray.empty, .bool false, .agg #[.int .i64 pl, .pointer (some ⟨t, 0, none⟩), .int .i64 off], .bool false]) ?_ rfl ⟨rfl, ?_⟩
    · simp [results, Try.results35, go_sem]
      rfl
    · exact below_three (below_drawn (((Below.refl _ _).alloc (Nat.le_refl _) _).alloc (by simp) _) _) (by omega) _ _ _

/-- strings.IndexByte(text[off:], '/') -/
theorem idx_of (text : ByteArray) (off : Nat) (j : Int) (hj : Lib.indexByte (text.data.toList.drop off) 47 = j) (w : World) :
    Calls Try.prog 40 #[.string (text.extract off text.size), .int .u8 47] w fun e w' => e = .returned (.int .i64 j) ∧ w' = w := by
  have h := Try.strings_IndexByte (text.extract off text.size) 47 w
  rw [Lib.extract_to_end] at h
  subst hj
  exact h

/-- The two structs that a call of next holds: e, at block N; down, at N + 1. Below N nothing has turned. -/
structure Two (N : Nat) (w0 : World) (pl : Int) (t : Nat) (off : Int) (x0 x1 x2 : Value) (w : World) : Prop where
  e0 : w.cell? ⟨N, 0, none⟩ = some (.int .i64 pl)
  e1 : w.cell? ⟨N, 1, none⟩ = some (.pointer (some ⟨t, 0, none⟩))
  e2 : w.cell? ⟨N, 2, none⟩ = some (.int .i64 off)
  d0 : w.cell? ⟨N + 1, 0, none⟩ = some x0
  d1 : w.cell? ⟨N + 1, 1, none⟩ = some x1
  d2 : w.cell? ⟨N + 1, 2, none⟩ = some x2
  f0 : w.frozen? ⟨N + 1, 0, none⟩ = false
  f1 : w.frozen? ⟨N + 1, 1, none⟩ = false
  f2 : w.frozen? ⟨N + 1, 2, none⟩ = false
  below : Below N w0 w

theorem Two.born (w0 : World) (pl : Int) (t : Nat) (off : Int) (n : Nat) :
    Two w0.heap.size w0 pl t off (.int .i64 0) (.pointer none) (.int .i64 0)
      (((w0.alloc (.cells #[.int .i64 pl, .pointer (some ⟨t, 0, none⟩), .int .i64 off] 52)).alloc (.cells #[.int .i64 0, .pointer none, .int .i64 0] 52)).drewN n) := by
  refine ⟨?_, ?_, ?_, ?_, ?_, ?_, ?_, ?_, ?_, below_drawn (((Below.refl _ _).alloc (Nat.le_refl _) _).alloc (by simp) _) _⟩ <;> simp [go_sem]

theorem Two.drew {N : Nat} {w0 : World} {pl : Int} {t : Nat} {off : Int} {x0 x1 x2 : Value} {w : World} (h : Two N w0 pl t off x0 x1 x2 w) : Two N w0 pl t off x0 x1 x2 w.drew :=
  ⟨h.e0, h.e1, h.e2, h.d0, h.d1, h.d2, h.f0, h.f1, h.f2, h.below.drew⟩

theorem Two.drewN {N : Nat} {w0 : World} {pl : Int} {t : Nat} {off : Int} {x0 x1 x2 : Value} {w : World} (h : Two N w0 pl t off x0 x1 x2 w) (n : Nat) : Two N w0 pl t off x0 x1 x2 (w.drewN n) :=
  ⟨h.e0, h.e1, h.e2, h.d0, h.d1, h.d2, h.f0, h.f1, h.f2, below_drawn h.below n⟩

theorem Two.store {N : Nat} {w0 : World} {pl : Int} {t : Nat} {off : Int} {x0 x1 x2 : Value} {w : World} (h : Two N w0 pl t off x0 x1 x2 w) (y0 y1 y2 : Value) :
    Two N w0 pl t off y0 y1 y2 (((w.setCell ⟨N + 1, 0, none⟩ y0).setCell ⟨N + 1, 1, none⟩ y1).setCell ⟨N + 1, 2, none⟩ y2) := by
  obtain ⟨e0, e1, e2, d0, d1, d2, f0, f1, f2, hb⟩ := h
  have o : ∀ (k : Nat), ∀ (w : World) (j : Nat) (v : Value), (w.setCell ⟨N + 1, j, none⟩ v).cell? ⟨N, k, none⟩ = w.cell? ⟨N, k, none⟩ := fun k w j v => World.cell?_setCell_other _ _ _ _ (by simp)
  have q : ∀ (k : Nat), ∀ (w : World) (j : Nat) (v : Value), j ≠ k → (w.setCell ⟨N + 1, j, none⟩ v).cell? ⟨N + 1, k, none⟩ = w.cell? ⟨N + 1, k, none⟩ := fun k w j v hk => World.cell?_setCell_other _ _ _ _ (fun h => hk (congrArg Addr.off h))
  have fz : ∀ (w : World) (a b : Addr) (v : Value), (w.setCell a v).frozen? b = w.frozen? b := fun w a b v => World.frozen?_setCell _ _ _ _
  refine ⟨?_, ?_, ?_, ?_, ?_, ?_, ?_, ?_, ?_, below_three hb (by omega) _ _ _⟩
  · rw [o, o, o]; exact e0
  · rw [o, o, o]; exact e1
  · rw [o, o, o]; exact e2
  · rw [q 0 _ 2 _ (by omega), q 0 _ 1 _ (by omega)]; exact World.cell?_setCell_same _ _ _ d0
  · rw [q 1 _ 2 _ (by omega)]; exact World.cell?_setCell_same (u := x1) _ _ _ (by rw [q 1 _ 0 _ (by omega)]; exact d1)
  · exact World.cell?_setCell_same (u := x2) _ _ _ (by rw [q 2 _ 1 _ (by omega), q 2 _ 0 _ (by omega)]; exact d2)
  · rw [fz, fz, fz]; exact f0
  · rw [fz, fz, fz]; exact f1
  · rw [fz, fz, fz]; exact f2

/-- What holeIn finds behind a topic: its placeholders. -/
def Holes (w : World) (t : Nat) (s e : List Int) (m : Nat) : Prop :=
  (w.cell? ⟨t, 2, none⟩ = some (.slice none 0 0) ∧ m = 0) ∨
  ∃ h c, w.cell? ⟨t, 2, none⟩ = some (.slice (some ⟨h, 0, none⟩) m c) ∧ ∀ i, i < m → w.cell? ⟨h, i * 3, none⟩ = some (.int .i64 (s.getD i 0)) ∧ w.cell? ⟨h, i * 3 + 1, none⟩ = some (.int .i64 (e.getD i 0)) ∧ w.cell? ⟨h, i * 3 + 2, none⟩ = some (.int .i64 0)

theorem kept_cell {w w' : World} {B : Nat} (hb : Below B w w') (hB : w.heap.size ≤ B) {a : Addr} {v : Value} (h : w.cell? a = some v) : w'.cell? a = some v :=
  (hb.cell (Nat.lt_of_lt_of_le (World.block_lt_of_cell? _ _ h) hB)).trans h

theorem Holes.below {w w' : World} {B : Nat} {t : Nat} {s e : List Int} {m : Nat} (h : Holes w t s e m) (hb : Below B w w') (hB : w.heap.size ≤ B) : Holes w' t s e m := by
  rcases h with ⟨h, hm⟩ | ⟨b, c, h, hc⟩
  · exact .inl ⟨kept_cell hb hB h, hm⟩
  · exact .inr ⟨b, c, kept_cell hb hB h, fun i hi => ⟨kept_cell hb hB (hc i hi).1, kept_cell hb hB (hc i hi).2.1, kept_cell hb hB (hc i hi).2.2⟩⟩

theorem holeIn_u (t m : Nat) (s e : List Int) (a b : Int) (w : World) (hm : m ≤ 1048576) (h : Holes w t s e m) :
    Calls Try.prog 41 #[.pointer (some ⟨t, 0, none⟩), .int .i64 a, .int .i64 b] w fun e' w' => e' = .returned (.bool (within s e m a b)) ∧ Below w.heap.size w w' := by
  rcases h with ⟨h, rfl⟩ | ⟨b', c, h, hc⟩
  · exact holeIn_nil t s e a b w h
  · exact holeIn_some t b' m c s e a b w hm h hc
end Go.Proofs.Qxb6600528a.Nx
