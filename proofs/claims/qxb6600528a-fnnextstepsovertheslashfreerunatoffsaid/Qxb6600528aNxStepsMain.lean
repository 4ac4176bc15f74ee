import Derived.Test.Qxb6600528aNxSteps
namespace Go.Proofs.Qxb6600528a.Nx
open Go.RowKit
set_option linter.unusedVariables false

set_option maxRecDepth 100000 in
set_option maxHeartbeats 1600000 in
theorem steps_main (pl : Int) (text : ByteArray) (lit : Bool) (a3 : Option Addr) (n3 c3 : Nat) (z3 : List Int) (a4 : Option Addr) (n4 c4 : Nat) (z4 : List Int) (off m : Nat) (w : World)
    (h3 : InI w a3 n3 c3 z3) (h4 : InI w a4 n4 c4 z4) (b1 : text.size ≤ 65536) (b3 : n3 ≤ 65536) (b4 : n4 ≤ 65536) (bs : text.size + 8 * n3 + 8 * n4 ≤ 1048576) (ho : off ≤ 9223372036854775807)
    (hm3 : m ≤ n3) (hm4 : m ≤ n4) (hm : m = n3 ∨ m = n4) (L : ByteArray) (W K : Bool) (D : Int) (hN : NextIs text lit z3 z4 m off L W K D) :
    Calls Try.prog 8 #[.int .i64 pl, .string text, .bool lit, .slice a3 n3 c3, .slice a4 n4 c4, .int .i64 off] w fun e w' => e = .returned (.bool true) ∧ Below w.heap.size w w' := by
  have HI3 : Hid (InI w a3 n3 c3 z3) := h3
  have HI4 : Hid (InI w a4 n4 c4 z4) := h4
  have HN : Hid (NextIs text lit z3 z4 m off L W K D) := hN
  have HM : Hid (m = n3 ∨ m = n4) := hm
  have hbs : (text.size : Int) + 8 * n3 + 8 * n4 ≤ 1048576 := by omega
  clear h3 h4 hN hm
  go_enter Try.func8, Try.ntmps8
  go_wp2_with (go_at_call 22; go_in)
  refine (clone_u a3 n3 c3 z3 w (by omega) HI3.out).mono ?_
  rintro e w1 ⟨x3, rfl, hs3, hb1⟩
  have HI4' : Hid (InI w1 a4 n4 c4 z4) := HI4.out.below hb1
  have HS3 : Hid (Src w1 x3 n3 z3) := hs3
  have HB1 : Hid (Below w.heap.size w w1) := hb1
  clear HI3 HI4 hs3 hb1
  go_wp2_with fail
  refine (clone_u a4 n4 c4 z4 w1 (by omega) HI4'.out).mono ?_
  rintro e w2 ⟨x4, rfl, hs4, hb2⟩
  have HS3' : Hid (Src w2 x3 n3 z3) := HS3.out.below hb2
  have HS4 : Hid (Src w2 x4 n4 z4) := hs4
  have HB2 : Hid (Below w.heap.size w w2) := HB1.out.trans (hb2.mono HB1.out.size)
  clear HI4' HS3 HB1 hs4 hb2
  go_wp2_with fail
  refine (zz_none pl off w2).mono ?_
  rintro e w3 ⟨rfl, hb3⟩
  have HS3 : Hid (Src w3 x3 n3 z3) := HS3'.out.below hb3
  have HS4' : Hid (Src w3 x4 n4 z4) := HS4.out.below hb3
  have HB3 : Hid (Below w.heap.size w w3) := HB2.out.trans (hb3.mono HB2.out.size)
  clear HS3' HS4 HB2 hb3
  go_wp2_with fail
  refine (zz_next pl text lit x3 x4 n3 n4 m z3 z4 off w3 (by omega) (by omega) hm3 hm4 HM.out HS3.out HS4'.out L W K D (by omega) HN.out).mono ?_
  rintro e w4 ⟨rfl, hb4⟩
  have HS3' : Hid (Src w4 x3 n3 z3) := HS3.out.below hb4
  have HS4 : Hid (Src w4 x4 n4 z4) := HS4'.out.below hb4
  have HB4 : Hid (Below w.heap.size w w4) := HB3.out.trans (hb4.mono HB3.out.size)
  clear HS3 HS4' HB3 hb4
  rcases HN.out with ⟨hA, rfl, rfl, rfl, rfl⟩ | ⟨o, ho', hle, hN⟩
  · clear HN HM HS3' HS4
    have hA' : text.size < off := by omega
    go_wp2_with fail
    go_ret
    exact ⟨rfl, HB4.out⟩
  · obtain rfl : off = o := by omega
    clear ho' HN
    have hge : ¬ text.size < off := by omega
    obtain ⟨p1, p2, p3, p4, p5⟩ := lvl_pack text off hle
    rcases hN with ⟨rfl, hL, rfl, rfl, rfl⟩ | ⟨rfl, hv, rfl, rfl, rfl, rfl⟩ | ⟨rfl, hv, hL, hW, rfl, rfl⟩
    · clear HM HS3' HS4
      rw [← hL] at p1 p2 p3 p4 p5
      rw [p1]
      have HG : Hid (∀ (i : Nat) (h : i < L.size), (((L[i].toNat : Nat) : Int) == 47) = false) := p4
      have HE : Hid (∀ h : off + L.size < text.size, (((text[off + L.size].toNat : Nat) : Int) != 47) = false) := p5
      clear hL p1 p4 p5
      go_wp2_with fail
      go_loop [26] (fun i => ∃ k : Nat, k ≤ L.size ∧ i = .int .i64 k) (fun i => L.size - (intOf i).toNat)
      case atStart => exact ⟨0, Nat.zero_le _, rfl⟩
      case round =>
        obtain ⟨k, hk, rfl⟩ := hrel
        by_cases hlt : k < L.size
        · have hg := HG.out k hlt
          go_wp2_with fail
          go_round
          case rel => exact ⟨k + 1, by omega, by go_num⟩
          case measure => simp [intOf]; omega
        · have hk2 : k = L.size := by omega
          subst hk2
          by_cases hE : off + L.size < text.size
          · have hE' := HE.out hE
            go_wp2_with fail
            go_ret
            exact ⟨rfl, HB4.out⟩
          · go_wp2_with fail
            go_ret
            exact ⟨rfl, HB4.out⟩
    · clear HM HS3' HS4 p1 p2 p3 p4 p5
      obtain ⟨q1, q2, q3⟩ := lvl_hash text off hle hv
      have q2' : ((text[off].toNat : Nat) : Int) = 35 := by rw [q2]; rfl
      clear q2 hv
      by_cases hE : off + 1 = text.size
      · have hE' : ((off : Int) + 1 == (text.size : Int)) = true := by simp; omega
        clear hE
        go_wp2_with fail
        go_ret
        exact ⟨rfl, HB4.out⟩
      · have q4 : off + 1 < text.size := by omega
        have q5 := lvl_end text off (by omega)
        have q5' : ((text[off + 1].toNat : Nat) : Int) = 47 := by
          have : text[off + 1] = 47 := by simpa [q3] using q5
          rw [this]; rfl
        have hE' : ((off : Int) + 1 == (text.size : Int)) = false := by simp; omega
        clear hE q5
        go_wp2_with fail
        go_ret
        exact ⟨rfl, HB4.out⟩
    · rw [← hL] at p1 p2 p3 p4 p5 hv hW
      rw [p1] at hW
      rw [p1]
      have HW : Hid (W = (L.toList == [43] || within z3 z4 m off (off + L.size : Nat))) := hW
      clear hW
      have HG : Hid (∀ (i : Nat) (h : i < L.size), (((L[i].toNat : Nat) : Int) == 47) = false) := p4
      have HE : Hid (∀ h : off + L.size < text.size, (((text[off + L.size].toNat : Nat) : Int) != 47) = false) := p5
      have hv' : (L.toList == [35]) = false := by simpa using hv
      clear hL p1 p4 p5 hv
      go_wp2_with fail
      go_loop [26] (fun i => ∃ k : Nat, k ≤ L.size ∧ i = .int .i64 k) (fun i => L.size - (intOf i).toNat)
      case atStart => exact ⟨0, Nat.zero_le _, rfl⟩
      case round =>
        obtain ⟨k, hk, rfl⟩ := hrel
        by_cases hlt : k < L.size
        · have hg := HG.out k hlt
          go_wp2_with fail
          go_round
          case rel => exact ⟨k + 1, by omega, by go_num⟩
          case measure => simp [intOf]; omega
        · have hk2 : k = L.size := by omega
          subst hk2
          by_cases hp : (L.toList == [43]) = true
          · have hW : W = true := by rw [HW.out, hp]; rfl
            subst hW
            by_cases hE : off + L.size < text.size
            · have hE' := HE.out hE
              go_wp2_with fail
              go_ret
              exact ⟨rfl, HB4.out⟩
            · go_wp2_with fail
              go_ret
              exact ⟨rfl, HB4.out⟩
          · have hp' : (L.toList == [43]) = false := by simpa using hp
            clear hp
            have C := within_any x3 x4 n3 n4 m z3 z4 off (off + L.size : Nat) w4 HS3'.out HS4.out (by omega) (by omega) hm3 hm4 HM.out
            have hW : within z3 z4 m off (off + L.size : Nat) = W := by rw [HW.out, hp']; rfl
            rw [hW, Int.natCast_add] at C
            have HC : Hid (Calls Try.prog 26 _ _ _) := C
            clear hW C
            by_cases hE : off + L.size < text.size
            · have hE' := HE.out hE
              go_wp2_with (go_at_call 26; refine HC.out.mono ?_; rintro e' w9 ⟨rfl, rfl⟩)
              go_ret
              exact ⟨rfl, HB4.out⟩
            · go_wp2_with (go_at_call 26; refine HC.out.mono ?_; rintro e' w9 ⟨rfl, rfl⟩)
              go_ret
              exact ⟨rfl, HB4.out⟩
end Go.Proofs.Qxb6600528a.Nx
