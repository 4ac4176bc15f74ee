import Derived.Test.Qxb6600528aNxLevels
namespace Go.Proofs.Qxb6600528a.Nx
open Go.RowKit
set_option linter.unusedVariables false

set_option maxRecDepth 100000 in
set_option maxHeartbeats 1600000 in
theorem level_short (pl : Int) (text : ByteArray) (lit : Bool) (a3 : Option Addr) (n3 c3 : Nat) (a4 : Option Addr) (n4 c4 : Nat) (w : World) (b1 : text.size ≤ 9223372036854775807) (b3 : n3 ≤ 9223372036854775807) (b4 : n4 ≤ 9223372036854775807)
    (h : 1048576 < text.size + 8 * n3 + 8 * n4 ∨ 4096 < text.size ∨ 4096 < n3 ∨ 4096 < n4) :
    Calls Try.prog 9 #[.int .i64 pl, .string text, .bool lit, .slice a3 n3 c3, .slice a4 n4 c4] w fun e w' => e = .returned (.bool true) ∧ w' = w := by
  by_cases h1 : (1048576 : Int) < text.size
  · clear h
    go_enter Try.func9, Try.ntmps9
    go_wp2
    go_ret
    exact ⟨rfl, rfl⟩
  by_cases h2 : (1048576 : Int) < n3
  · clear h
    go_enter Try.func9, Try.ntmps9
    go_wp2
    go_ret
    exact ⟨rfl, rfl⟩
  by_cases h3 : (1048576 : Int) < text.size + n3
  · clear h
    go_enter Try.func9, Try.ntmps9
    go_wp2
    go_ret
    exact ⟨rfl, rfl⟩
  by_cases h4 : (1048576 : Int) < n4
  · clear h
    go_enter Try.func9, Try.ntmps9
    go_wp2
    go_ret
    exact ⟨rfl, rfl⟩
  by_cases h5 : (1048576 : Int) < text.size + n3 + n4
  · clear h
    go_enter Try.func9, Try.ntmps9
    go_wp2
    go_ret
    exact ⟨rfl, rfl⟩
  by_cases h6 : (1048576 : Int) < text.size + 8 * n3 + 8 * n4
  · clear h
    go_enter Try.func9, Try.ntmps9
    go_wp2
    go_ret
    exact ⟨rfl, rfl⟩
  by_cases h7 : (4096 : Int) < text.size
  · clear h
    go_enter Try.func9, Try.ntmps9
    go_wp2
    go_ret
    exact ⟨rfl, rfl⟩
  by_cases h8 : (4096 : Int) < n3
  · clear h
    go_enter Try.func9, Try.ntmps9
    go_wp2
    go_ret
    exact ⟨rfl, rfl⟩
  have h9 : (4096 : Int) < n4 := by omega
  clear h
  go_enter Try.func9, Try.ntmps9
  go_wp2
  go_ret
  exact ⟨rfl, rfl⟩

/-- The cells of a slice of the call's own. -/
theorem own_at {w : World} {B : Nat} {v : Value} {S : List Nat} (h : w.ownsRow B 3 1 v S.length (S.map fun n : Nat => .int .i64 (n : Int))) (hp : 0 < S.length) :
    ∃ g c, v = .slice (some ⟨g, 0, none⟩) S.length c ∧ ∀ i, i < S.length → w.cell? ⟨g, i, none⟩ = some (.int .i64 (S.getD i 0 : Nat)) := by
  rcases h.2 with ⟨_, e⟩ | ⟨g, cap, cur, rfl, hb, hg, _⟩
  · omega
  · refine ⟨g, cap, rfl, fun i hi => ?_⟩
    have hc := h.cells (g := g) rfl i (.int .i64 (S.getD i 0 : Nat)) (by simp [hi])
    have hadd : (⟨g, 0, none⟩ : Addr).add i = ⟨g, i, none⟩ := by unfold Addr.add; split <;> simp_all
    rw [hadd] at hc
    exact hc

/-- What a round is told of level j. -/
theorem full_at {text : ByteArray} {S E : List Nat} (h : Full text.data.toList S E) {j : Nat} (hj : j < E.length) :
    ∃ a b : Nat, S.getD j 0 = a ∧ E.getD j 0 = b ∧ pre E j = a ∧ pre E (j + 1) = b + 1 ∧ a ≤ b ∧ b ≤ text.size ∧ stop text.data.toList a = b := by
  obtain ⟨h1, h2⟩ := h.stops j hj
  rw [len_list] at h2
  have h3 := stop_le text.data.toList (S.getD j 0) (by rw [len_list]; exact h2)
  rw [len_list] at h3
  have h4 := stop_ge text.data.toList (S.getD j 0)
  refine ⟨_, _, rfl, rfl, (h.starts j hj).symm, ?_, by omega, by omega, h1.symm⟩
  unfold pre
  rw [if_neg (by omega)]
  rfl

set_option maxRecDepth 100000 in
set_option maxHeartbeats 3200000 in
theorem level_main (pl : Int) (text : ByteArray) (lit : Bool) (a3 : Option Addr) (n3 c3 : Nat) (z3 : List Int) (a4 : Option Addr) (n4 c4 : Nat) (z4 : List Int) (m : Nat) (w : World)
    (h3 : InI w a3 n3 c3 z3) (h4 : InI w a4 n4 c4 z4) (b1 : text.size ≤ 4096) (b3 : n3 ≤ 4096) (b4 : n4 ≤ 4096) (bs : text.size + 8 * n3 + 8 * n4 ≤ 1048576)
    (hm3 : m ≤ n3) (hm4 : m ≤ n4) (hm : m = n3 ∨ m = n4) :
    Calls Try.prog 9 #[.int .i64 pl, .string text, .bool lit, .slice a3 n3 c3, .slice a4 n4 c4] w fun e w' => e = .returned (.bool true) ∧ Below w.heap.size w w' := by
  have HI3 : Hid (InI w a3 n3 c3 z3) := h3
  have HI4 : Hid (InI w a4 n4 c4 z4) := h4
  have HM : Hid (m = n3 ∨ m = n4) := hm
  have hbs : (text.size : Int) + 8 * n3 + 8 * n4 ≤ 1048576 := by omega
  clear h3 h4 hm
  go_enter Try.func9, Try.ntmps9
  go_wp2_with (go_at_call 27; go_in)
  refine (clone_u a3 n3 c3 z3 w (by omega) HI3.out).mono ?_
  rintro e w1 ⟨x3, rfl, hs3, hb1⟩
  have HI4' : Hid (InI w1 a4 n4 c4 z4) := HI4.out.below hb1
  have HS3 : Hid (Src w1 x3 n3 z3) := hs3
  have HB1 : Hid (Below w.heap.size w w1) := hb1
  clear HI3 HI4 hs3 hb1
  go_wp2_with fail
  refine (clone_u a4 n4 c4 z4 w1 (by omega) HI4'.out).mono ?_
  rintro e w2 ⟨x4, rfl, hs4, hb2⟩
  have HS3' : Hid (Src w2 x3 n3 z3) := HS3.out.below hb2
  have HS4 : Hid (Src w2 x4 n4 z4) := hs4
  have HB2 : Hid (Below w.heap.size w w2) := HB1.out.trans (hb2.mono HB1.out.size)
  clear HI4' HS3 HB1 hs4 hb2
  go_wp2_with fail
  refine (levels_any text w2 b1).mono ?_
  rintro e w3 ⟨v2, v3, S, E, rfl, hF, hP⟩
  have HS3 : Hid (Src w3 x3 n3 z3) := HS3'.out.below hP.below
  have HS4' : Hid (Src w3 x4 n4 z4) := HS4.out.below hP.below
  have HB3 : Hid (Below w.heap.size w w3) := HB2.out.trans (hP.below.mono HB2.out.size)
  clear HS3' HS4 HB2
  have hpos := hF.pos
  have hlen := hF.len
  have hsm := hF.small
  rw [len_list] at hsm
  obtain ⟨g2, k2, e2, hc2⟩ := own_at hP.o2 (by omega)
  obtain ⟨g3, k3, e3, hc3⟩ := own_at hP.o3 (by omega)
  have HC2 : Hid (∀ i, i < S.length → w3.cell? ⟨g2, i, none⟩ = some (.int .i64 (S.getD i 0 : Nat))) := hc2
  have HC3 : Hid (∀ i, i < E.length → w3.cell? ⟨g3, i, none⟩ = some (.int .i64 (E.getD i 0 : Nat))) := hc3
  have HF : Hid (Full text.data.toList S E) := hF
  subst e2 e3
  clear hP hc2 hc3 hF
  obtain ⟨N, hN⟩ : ∃ N, E.length = N := ⟨_, rfl⟩
  rw [hlen, hN] at HC2 ⊢
  rw [hN] at HC3 hpos hsm
  have HN : Hid (E.length = N) := hN
  clear hN hlen
  go_wp2_with fail
  go_loopw [13, 14] (fun off k wr => ∃ j : Nat, j ≤ N ∧ k = .int .i64 j ∧ off = .int .i64 (pre E j : Nat) ∧ Below w3.heap.size w3 wr) (fun _ k _ => N + 1 - (intOf k).toNat)
  case atStart => exact ⟨0, Nat.zero_le _, rfl, rfl, Below.refl _ _⟩
  case round =>
    obtain ⟨j, hj, rfl, rfl, hb⟩ := hrel
    have HS3r : Hid (Src wr x3 n3 z3) := HS3.out.below hb
    have HS4r : Hid (Src wr x4 n4 z4) := HS4'.out.below hb
    have HBr : Hid (Below w3.heap.size w3 wr) := hb
    have HBw : Hid (Below w.heap.size w wr) := HB3.out.trans (hb.mono HB3.out.size)
    clear hb
    by_cases hjN : j < N
    · obtain ⟨a, b, q1, q2, q3, q4, q5, q6, q7⟩ := full_at HF.out (j := j) (by rw [HN.out]; exact hjN)
      rw [q3]
      have d2 := HC2.out j hjN
      have d3 := HC3.out j hjN
      rw [q1] at d2
      rw [q2] at d3
      have d2 := kept_cell HBr.out (Nat.le_refl _) d2
      have d3 := kept_cell HBr.out (Nat.le_refl _) d3
      have HQ4 : Hid (pre E (j + 1) = b + 1) := q4
      have HL : Hid (lvl text a = text.extract a b) := by unfold lvl; rw [q7]; rfl
      have HST : Hid (stop text.data.toList a = b) := q7
      clear q1 q2 q3 q4 q7
      have hji : (j : Int) < (N : Int) := by omega
      cases lit
      · by_cases hv : (lvl text a).toList = [35]
        · have HNX : Hid (NextIs text false z3 z4 m a ByteArray.empty false false a) := .inr ⟨a, rfl, by omega, .inr (.inl ⟨rfl, hv, rfl, rfl, rfl, rfl⟩)⟩
          rw [HL.out] at hv
          have hv' : ((text.extract a b).toList == [35]) = true := by rw [hv]; rfl
          clear hv
          go_wp2_with (go_at_call 25; refine (zz_next pl text false x3 x4 n3 n4 m z3 z4 a wr (by omega) (by omega) hm3 hm4 HM.out HS3r.out HS4r.out _ _ _ _ (by omega) HNX.out).mono ?_; rintro e5 w5 ⟨rfl, hb5⟩; have d2' := kept_cell hb5 (Nat.le_refl _) d2; have d3' := kept_cell hb5 (Nat.le_refl _) d3; have HB5 : Hid _ := HBw.out.trans (hb5.mono HBw.out.size); clear hb5)
          go_quiet (fail)
          go_wp2_with fail
          go_ret
          exact ⟨rfl, below_drawn HB5.out _⟩
        · have HNX : Hid (NextIs text false z3 z4 m a (text.extract a b) ((text.extract a b).toList == [43] || within z3 z4 m a b) true (b + 1 : Nat)) :=
            .inr ⟨a, rfl, by omega, .inr (.inr ⟨rfl, hv, HL.out.symm, by rw [HL.out, HST.out], by rw [HST.out], rfl⟩)⟩
          rw [HL.out] at hv
          have hv' : ((text.extract a b).toList == [35]) = false := by simpa using hv
          clear hv
          by_cases hp : ((text.extract a b).toList == [43]) = true
          · rw [hp, Bool.true_or] at HNX
            go_wp2_with (go_at_call 25; refine (zz_next pl text false x3 x4 n3 n4 m z3 z4 a wr (by omega) (by omega) hm3 hm4 HM.out HS3r.out HS4r.out _ _ _ _ (by omega) HNX.out).mono ?_; rintro e5 w5 ⟨rfl, hb5⟩; have d2' := kept_cell hb5 (Nat.le_refl _) d2; have d3' := kept_cell hb5 (Nat.le_refl _) d3; have HB5 : Hid _ := HBr.out.trans (hb5.mono HBr.out.size); have H3w : Hid (Src w5 x3 n3 z3) := HS3r.out.below hb5; have H4w : Hid (Src w5 x4 n4 z4) := HS4r.out.below hb5; clear hb5)
            go_quiet (fail)
            go_wp2_with fail
            go_quiet (fail)
            go_wp2_with fail
            go_roundw
            case rel => exact ⟨j + 1, by omega, by go_num, by rw [HQ4.out]; go_num, below_drawn HB5.out _⟩
            case measure => simp [intOf]; omega
          · have hp' : ((text.extract a b).toList == [43]) = false := by simpa using hp
            clear hp
            rw [hp', Bool.false_or] at HNX
            obtain ⟨W, hW⟩ : ∃ W, within z3 z4 m a b = W := ⟨_, rfl⟩
            rw [hW] at HNX
            have HW : Hid (within z3 z4 m a b = W) := hW
            clear hW
            go_wp2_with (go_at_call 25; refine (zz_next pl text false x3 x4 n3 n4 m z3 z4 a wr (by omega) (by omega) hm3 hm4 HM.out HS3r.out HS4r.out _ _ _ _ (by omega) HNX.out).mono ?_; rintro e5 w5 ⟨rfl, hb5⟩; have d2' := kept_cell hb5 (Nat.le_refl _) d2; have d3' := kept_cell hb5 (Nat.le_refl _) d3; have HB5 : Hid _ := HBr.out.trans (hb5.mono HBr.out.size); have H3w : Hid (Src w5 x3 n3 z3) := HS3r.out.below hb5; have H4w : Hid (Src w5 x4 n4 z4) := HS4r.out.below hb5; clear hb5)
            go_quiet (fail)
            have HCW : Hid (∀ k n, Calls Try.prog 26 #[.slice x3 n3 n3, .slice x4 n4 n4, .int .i64 a, .int .i64 b] (w5.drewN (k + n)) fun e' w' => e' = .returned (.bool W) ∧ ∃ m, w' = w5.drewN (k + m)) := fun k n => by
              have C := within_any x3 x4 n3 n4 m z3 z4 a b (w5.drewN (k + n)) H3w.out H4w.out (by omega) (by omega) hm3 hm4 HM.out
              rw [HW.out] at C
              exact C.mono fun e' w' h => ⟨h.1, n, h.2⟩
            go_wp2_with fail
            go_quiet ((go_at_call 26; exact HCW.out _ _))
            go_wp2_with fail
            go_roundw
            case rel => exact ⟨j + 1, by omega, by go_num, by rw [HQ4.out]; go_num, below_drawn HB5.out _⟩
            case measure => simp [intOf]; omega
      · have HNX : Hid (NextIs text true z3 z4 m a (text.extract a b) false true (b + 1 : Nat)) := .inr ⟨a, rfl, by omega, .inl ⟨rfl, HL.out.symm, rfl, by rw [HST.out], rfl⟩⟩
        go_wp2_with (go_at_call 25; refine (zz_next pl text true x3 x4 n3 n4 m z3 z4 a wr (by omega) (by omega) hm3 hm4 HM.out HS3r.out HS4r.out _ _ _ _ (by omega) HNX.out).mono ?_; rintro e5 w5 ⟨rfl, hb5⟩; have d2' := kept_cell hb5 (Nat.le_refl _) d2; have d3' := kept_cell hb5 (Nat.le_refl _) d3; have HB5 : Hid _ := HBr.out.trans (hb5.mono HBr.out.size); clear hb5)
        go_quiet (fail)
        go_wp2_with fail
        go_quiet (fail)
        go_wp2_with fail
        go_roundw
        case rel => exact ⟨j + 1, by omega, by go_num, by rw [HQ4.out]; go_num, below_drawn HB5.out _⟩
        case measure => simp [intOf]; omega
    · have hjN' : j = N := by omega
      subst hjN'
      have hlast := HF.out.last
      rw [HN.out, len_list] at hlast
      rw [hlast]
      clear hlast
      go_wp2_with (go_at_call 25; refine (zz_next pl text lit x3 x4 n3 n4 m z3 z4 _ wr (by omega) (by omega) hm3 hm4 HM.out HS3r.out HS4r.out ByteArray.empty false false _ (by omega) (.inl ⟨by omega, rfl, rfl, rfl, rfl⟩)).mono ?_; rintro e5 w5 ⟨rfl, hb5⟩)
      go_ret
      exact ⟨rfl, HBw.out.trans (hb5.mono HBw.out.size)⟩
end Go.Proofs.Qxb6600528a.Nx
