import Derived.Test.Qxb6600528aSkWalks
namespace Go.Proofs.Qxb6600528a.Sk
open Go.RowKit

/-- What the law is told of a slice of bytes that came in. -/
def InB (w : World) (a : Option Addr) (n c : Nat) (zs : List Int) : Prop :=
  (a = none ∧ n = 0 ∧ c = 0) ∨ ∃ x, a = some x ∧ ∀ i, i < n → w.cell? (x.add i) = some (.int .u8 (zs.getD i 0))

theorem InB.below {w w' : World} {a : Option Addr} {n c : Nat} {zs : List Int} (h : InB w a n c zs) (hb : Below w.heap.size w w') : InB w' a n c zs := by
  rcases h with h | ⟨x, e, hc⟩
  · exact .inl h
  · exact .inr ⟨x, e, fun i hi => (hb.cell (World.block_lt_of_cell? _ _ (hc i hi))).trans (hc i hi)⟩

set_option maxHeartbeats 400000 in
theorem shift_short (a0 : Option Addr) (n0 c0 : Nat) (a1 : Option Addr) (n1 c1 : Nat) (off : Int) (w : World) (b0 : n0 ≤ 9223372036854775807) (b1 : n1 ≤ 9223372036854775807)
    (h : 1048576 < n0 ∨ 1048576 < n1 ∨ 1048576 < n0 + n1 ∨ off < 0 ∨ 1048576 < off) :
    Calls Try.prog 7 #[.slice a0 n0 c0, .slice a1 n1 c1, .int .i64 off] w fun e w' => e = .returned (.bool true) ∧ w' = w := by
  by_cases h0 : 1048576 < n0
  · clear h
    go_enter Try.func7, Try.ntmps7
    go_wp2
    go_ret
    exact ⟨rfl, rfl⟩
  by_cases h1 : 1048576 < n1
  · clear h
    go_enter Try.func7, Try.ntmps7
    go_wp2
    go_ret
    exact ⟨rfl, rfl⟩
  by_cases h2 : (1048576 : Int) < n0 + n1
  · clear h
    go_enter Try.func7, Try.ntmps7
    go_wp2
    go_ret
    exact ⟨rfl, rfl⟩
  by_cases h3 : off < 0
  · clear h
    go_enter Try.func7, Try.ntmps7
    go_wp2
    go_ret
    exact ⟨rfl, rfl⟩
  have h4 : 1048576 < off := by omega
  clear h
  go_enter Try.func7, Try.ntmps7
  go_wp2
  go_ret
  exact ⟨rfl, rfl⟩

theorem make25 (n0 n1 : Nat) (h : n0 + n1 ≤ 1048576) (w : World) : (Instr.makeSlice 25 (.int .i64 ((n0 : Int) + (n1 : Int))) (.int .i64 ((n0 : Int) + (n1 : Int)))).run Try.prog w =
    .ok (.slice (some ⟨w.heap.size, 0, none⟩) (n0 + n1) (n0 + n1)) (w.alloc (.cells (madeCells #[.int .u8 0] (n0 + n1)) 5)) := by
  have := run_make_row' (P := Try.prog) 25 5 (.int .u8 0) 1 Try.underlying25 info5 rfl .i64 .i64 (n0 + n1) (by omega) (by omega) w
  rw [Int.natCast_add] at this
  exact this

set_option maxHeartbeats 800000 in
theorem shift_main (a0 : Option Addr) (n0 c0 : Nat) (z0 : List Int) (a1 : Option Addr) (n1 c1 : Nat) (z1 : List Int) (off : Nat) (w : World)
    (h0 : InB w a0 n0 c0 z0) (h1 : InB w a1 n1 c1 z1) (l0 : z0.length = n0) (l1 : z1.length = n1) (B0 : AllB z0) (B1 : AllB z1) (hs : n0 + n1 ≤ 1048576) (ho : off ≤ 1048576) :
    Calls Try.prog 7 #[.slice a0 n0 c0, .slice a1 n1 c1, .int .i64 off] w fun e w' => e = .returned (.bool true) ∧ Below w.heap.size w w' := by
  have hmk := make25 n0 n1 hs
  have HI0 : Hid (InB w a0 n0 c0 z0) := h0
  have HI1 : Hid (InB w a1 n1 c1 z1) := h1
  clear h0 h1
  have hs' : (n0 : Int) + n1 ≤ 1048576 := by omega
  go_enter Try.func7, Try.ntmps7
  go_wp2_with (go_at_call 21; go_in)
  refine (clone_u a0 n0 c0 z0 w (by omega) HI0.out).mono ?_
  rintro e w1 ⟨x0, rfl, hs0, hb1⟩
  have HI1' : Hid (InB w1 a1 n1 c1 z1) := HI1.out.below hb1
  clear HI0 HI1
  go_wp2_with fail
  refine (clone_u a1 n1 c1 z1 w1 (by omega) HI1'.out).mono ?_
  rintro e w2 ⟨x1, rfl, hs1, hb2⟩
  have HS0 : Hid (Src w2 x0 n0 z0) := hs0.below hb2
  have HS1 : Hid (Src w2 x1 n1 z1) := hs1
  have HB : Hid (Below w.heap.size w w2) := hb1.trans (hb2.mono hb1.size)
  clear HI1' hs0 hs1 hb1 hb2
  go_wp2_with fail
  go_loopw [8] (fun i wr => ∃ k : Nat, k ≤ n0 ∧ i = .int .i64 k ∧ wr.rowIs w2.heap.size 5 (n0 + n1) (fun j => .int .u8 (if j < k then (z0 ++ z1).getD j 0 else 0)) ∧ Below w2.heap.size w2 wr) (fun i _ => n0 - (intOf i).toNat)
  case atStart => exact ⟨0, Nat.zero_le _, rfl, (World.rowIs_made w2 _ (n0 + n1) 5).congr (fun i hi => by simp), (Below.refl _ _).alloc (Nat.le_refl _) _⟩
  case round =>
    obtain ⟨k, hk, rfl, hrow, hb⟩ := hrel
    by_cases hlt : k < n0
    · obtain ⟨h, hx, hr0⟩ : ∃ h, x0 = some ⟨h, 0, none⟩ ∧ w2.rowIs h 5 n0 (fun i => .int .u8 (z0.getD i 0)) := by
        rcases HS0.out with ⟨_, e⟩ | e
        · omega
        · exact e
      subst hx
      have hc : wr.cell? ⟨h, k, none⟩ = some (.int .u8 (z0.getD k 0)) := (hb.cell hr0.lt).trans (hr0.cell hlt)
      have hd := hrow.cell (i := k) (by omega)
      have hf := hrow.frozen k
      have R1 := (hrow.set k (.int .u8 (z0.getD k 0))).congr (g := fun j => .int .u8 (if j < k + 1 then (z0 ++ z1).getD j 0 else 0)) (fun j hj => by
        by_cases e : j = k
        · subst e; simp [List.getElem?_append_left (show j < z0.length by omega)]
        · have : (j < k + 1) = (j < k) := by apply propext; omega
          simp [e, this])
      have R2 := hb.setCell (p := ⟨w2.heap.size, k, none⟩) (Nat.le_refl _) (.int .u8 (z0.getD k 0))
      obtain ⟨v, hv⟩ : ∃ v, v = z0.getD k 0 := ⟨_, rfl⟩
      rw [← hv] at hc R1 R2
      clear hrow hb hr0 hv
      go_wp2_with fail
      go_roundw
      case rel => exact ⟨k + 1, by omega, by go_num, R1, R2⟩
      case measure => simp [intOf]; omega
    · have hk2 : k = n0 := by omega
      subst hk2
      have HR : Hid (wr.rowIs w2.heap.size 5 (k + n1) (fun j => .int .u8 (if j < k then (z0 ++ z1).getD j 0 else 0))) := hrow
      have HB2 : Hid (Below w2.heap.size w2 wr) := hb
      clear hrow hb
      go_wp2_with fail
      go_loopw [9] (fun i wr => ∃ j : Nat, j ≤ n1 ∧ i = .int .i64 j ∧ wr.rowIs w2.heap.size 5 (k + n1) (fun t => .int .u8 (if t < k + j then (z0 ++ z1).getD t 0 else 0)) ∧ Below w2.heap.size w2 wr) (fun i _ => n1 - (intOf i).toNat)
      case atStart => exact ⟨0, Nat.zero_le _, rfl, HR.out, HB2.out⟩
      case round =>
        obtain ⟨j, hj, rfl, hrow, hb⟩ := hrel
        clear HR HB2
        by_cases hlt : j < n1
        · obtain ⟨h, hx, hr1⟩ : ∃ h, x1 = some ⟨h, 0, none⟩ ∧ w2.rowIs h 5 n1 (fun i => .int .u8 (z1.getD i 0)) := by
            rcases HS1.out with ⟨_, e⟩ | e
            · omega
            · exact e
          subst hx
          have hc : wr.cell? ⟨h, j, none⟩ = some (.int .u8 (z1.getD j 0)) := (hb.cell hr1.lt).trans (hr1.cell hlt)
          have hd := hrow.cell (i := k + j) (by omega)
          have hf := hrow.frozen (k + j)
          have R1 := (hrow.set (k + j) (.int .u8 (z1.getD j 0))).congr (g := fun t => .int .u8 (if t < k + (j + 1) then (z0 ++ z1).getD t 0 else 0)) (fun t ht => by
            by_cases e : t = k + j
            · subst e
              have e2 : (k + j - z0.length) = j := by omega
              simp [List.getElem?_append_right (show z0.length ≤ k + j by omega), e2]
            · have : (t < k + (j + 1)) = (t < k + j) := by apply propext; omega
              simp [e, this])
          have R2 := hb.setCell (p := ⟨w2.heap.size, k + j, none⟩) (Nat.le_refl _) (.int .u8 (z1.getD j 0))
          obtain ⟨v, hv⟩ : ∃ v, v = z1.getD j 0 := ⟨_, rfl⟩
          rw [← hv] at hc R1 R2
          clear hrow hb hr1 hv
          go_wp2_with fail
          go_roundw
          case rel => exact ⟨j + 1, by omega, by go_num, R1, R2⟩
          case measure => simp [intOf]; omega
        · have hj2 : j = n1 := by omega
          subst hj2
          have HR : Hid (wr.rowIs w2.heap.size 5 (k + j) (fun t => .int .u8 ((z0 ++ z1).getD t 0))) := hrow.congr (fun t ht => by simp [ht])
          have HB2 : Hid (Below w2.heap.size w2 wr) := hb
          clear hrow hb
          have HJ : Hid (Src wr (some ⟨w2.heap.size, 0, none⟩) (k + j) (z0 ++ z1)) := .inr ⟨_, rfl, HR.out⟩
          go_wp2_with fail
          have e1 : ((k : Int) + (off : Int)) = ((k + off : Nat) : Int) := by omega
          rw [e1]
          clear e1
          obtain ⟨s1, hs1⟩ : ∃ s, skip z1 off = s := ⟨_, rfl⟩
          have hsb : s1 ≤ 3000000 := by have := skip_bd z1 off; omega
          have hsh : skip (z0 ++ z1) (k + off) = k + s1 := by have := skip_shift z0 z1 off; rw [l0] at this; omega
          have C1 := zz_u (some ⟨w2.heap.size, 0, none⟩) (k + j) (z0 ++ z1) (k + off) wr (by omega) (by simp; omega) (by omega) (B0.append B1) HJ.out
          rw [hsh] at C1
          refine C1.mono ?_
          rintro e w5 ⟨rfl, hb5⟩
          have HX5 : Hid (Src w5 x1 j z1) := (HS1.out.below (HB2.out.mono (Nat.le_refl _))).below hb5
          have HS : Hid (skip z1 off = s1) := hs1
          have HB5 : Hid (Below w.heap.size w w5) := HB.out.trans ((HB2.out.mono HB.out.size).trans (hb5.mono (Nat.le_trans HB.out.size HB2.out.size)))
          clear hs1 hsh C1 hb5 HJ HR HB2 HB
          go_wp2_with fail
          have C2 := zz_u x1 j z1 off w5 (by omega) l1 (by omega) B1 HX5.out
          rw [HS.out] at C2
          refine C2.mono ?_
          rintro e w6 ⟨rfl, hb6⟩
          have HB6 : Hid (Below w.heap.size w w6) := HB5.out.trans (hb6.mono HB5.out.size)
          clear C2 hb6 HB5 HX5
          go_wp2_with fail
          go_ret
          exact ⟨rfl, HB6.out⟩
end Go.Proofs.Qxb6600528a.Sk
