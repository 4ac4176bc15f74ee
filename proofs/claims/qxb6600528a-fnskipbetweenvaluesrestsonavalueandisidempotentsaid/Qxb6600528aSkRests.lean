import Derived.Test.Qxb6600528aSkShift
namespace Go.Proofs.Qxb6600528a.Sk
open Go.RowKit

set_option maxHeartbeats 400000 in
theorem rests_short (a0 : Option Addr) (n0 c0 : Nat) (off : Int) (w : World) (b0 : n0 ≤ 9223372036854775807) (h : 1048576 < n0 ∨ off < 0) :
    Calls Try.prog 6 #[.slice a0 n0 c0, .int .i64 off] w fun e w' => e = .returned (.bool true) ∧ w' = w := by
  by_cases h0 : 1048576 < n0
  · clear h
    go_enter Try.func6, Try.ntmps6
    go_wp2
    go_ret
    exact ⟨rfl, rfl⟩
  have h4 : off < 0 := by omega
  clear h
  go_enter Try.func6, Try.ntmps6
  go_wp2
  go_ret
  exact ⟨rfl, rfl⟩

set_option maxHeartbeats 400000 in
theorem isSep_no (c : Int) (w : World) (h : sepB c = false) : Calls Try.prog 20 #[.int .u8 c] w fun e w' => e = .returned (.bool false) ∧ w' = w := by
  obtain ⟨d1, d2, d3, d4, d5⟩ := sep_not h
  have H : Hid (sepB c = false) := h
  clear h
  go_enter Try.func20, Try.ntmps20
  go_wp2
  go_ret
  exact ⟨by show Ending.returned (.bool (sepB c)) = _; rw [H.out], rfl⟩

set_option maxHeartbeats 800000 in
theorem rests_main (a0 : Option Addr) (n0 c0 : Nat) (z0 : List Int) (off : Nat) (w : World)
    (h0 : InB w a0 n0 c0 z0) (l0 : z0.length = n0) (B0 : AllB z0) (hs : n0 ≤ 1048576) (ho : off ≤ 9223372036854775807) :
    Calls Try.prog 6 #[.slice a0 n0 c0, .int .i64 off] w fun e w' => e = .returned (.bool true) ∧ Below w.heap.size w w' := by
  have HI0 : Hid (InB w a0 n0 c0 z0) := h0
  clear h0
  go_enter Try.func6, Try.ntmps6
  go_wp2_with (go_at_call 17; go_in)
  refine (clone_u a0 n0 c0 z0 w (by omega) HI0.out).mono ?_
  rintro e w1 ⟨x0, rfl, hs0, hb1⟩
  have HS : Hid (Src w1 x0 n0 z0) := hs0
  have HB : Hid (Below w.heap.size w w1) := hb1
  clear HI0 hs0 hb1
  go_wp2_with fail
  obtain ⟨r, hr⟩ : ∃ r, skip z0 off = r := ⟨_, rfl⟩
  have C1 := zz_u x0 n0 z0 off w1 (by omega) l0 (by omega) B0 HS.out
  rw [hr] at C1
  have HR : Hid (skip z0 off = r) := hr
  clear hr
  refine C1.mono ?_
  rintro e w2 ⟨rfl, hb2⟩
  have HS2 : Hid (Src w2 x0 n0 z0) := HS.out.below hb2
  have HB2 : Hid (Below w.heap.size w w2) := HB.out.trans (hb2.mono HB.out.size)
  clear C1 HS HB hb2
  by_cases hle : n0 ≤ off
  · have e : r = off := by have := skip_end z0 off (by omega); rw [← HR.out]; exact this
    subst e
    go_wp2_with fail
    go_ret
    exact ⟨rfl, HB2.out⟩
  · have hrb := skip_le z0 off (by omega)
    rw [HR.out] at hrb
    obtain ⟨hr1, hr2⟩ := hrb
    rw [l0] at hr2
    have hagain : skip z0 r = r := by rw [← HR.out]; exact skip_again z0 off
    have HA : Hid (skip z0 r = r) := hagain
    clear hagain
    by_cases hlt : r < n0
    · obtain ⟨h, hx, hrow⟩ : ∃ h, x0 = some ⟨h, 0, none⟩ ∧ w2.rowIs h 5 n0 (fun i => .int .u8 (z0.getD i 0)) := by
        rcases HS2.out with ⟨_, e⟩ | e
        · omega
        · exact e
      subst hx
      have hc := hrow.cell hlt
      have hv := skip_rests z0 off (by rw [HR.out]; omega)
      rw [HR.out] at hv
      obtain ⟨v, hv2⟩ : ∃ v, z0.getD r 0 = v := ⟨_, rfl⟩
      rw [hv2] at hc hv
      obtain ⟨v1, v2⟩ := hv
      have V1 : Hid (sepB v = false) := v1
      clear hrow hv2 v1
      go_wp2_with (go_at_call 20; refine (isSep_no _ _ V1.out).mono ?_; rintro e w' ⟨rfl, rfl⟩)
      have C2 := zz_u _ n0 z0 r _ (by omega) l0 (by omega) B0 HS2.out
      rw [HA.out] at C2
      refine C2.mono ?_
      rintro e w3 ⟨rfl, hb3⟩
      have HB3 : Hid (Below w.heap.size w w3) := HB2.out.trans (hb3.mono HB2.out.size)
      clear C2 HB2 hb3 HS2
      go_wp2_with fail
      go_ret
      exact ⟨rfl, HB3.out⟩
    · go_wp2_with fail
      have C2 := zz_u _ n0 z0 r _ (by omega) l0 (by omega) B0 HS2.out
      rw [HA.out] at C2
      refine C2.mono ?_
      rintro e w3 ⟨rfl, hb3⟩
      have HB3 : Hid (Below w.heap.size w w3) := HB2.out.trans (hb3.mono HB2.out.size)
      clear C2 HB2 hb3 HS2
      go_wp2_with fail
      go_ret
      exact ⟨rfl, HB3.out⟩
end Go.Proofs.Qxb6600528a.Sk
