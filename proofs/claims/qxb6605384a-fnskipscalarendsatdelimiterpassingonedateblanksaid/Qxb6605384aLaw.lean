import Derived.Test.Qxb6605384aScalar
import Derived.Deep.DeepCutAuto
namespace Go.Proofs.Qxb6605384a.Sc
open Go.RowKit
set_option linter.unusedVariables false

theorem isD_or {c : Int} (h : isD c = true) : c = 32 ∨ c = 9 ∨ c = 13 ∨ c = 10 ∨ c = 44 ∨ c = 93 ∨ c = 125 ∨ c = 35 := by
  simp [isD] at h
  omega
theorem isD_not {c : Int} (h : isD c = false) : c ≠ 32 ∧ c ≠ 9 ∧ c ≠ 13 ∧ c ≠ 10 ∧ c ≠ 44 ∧ c ≠ 93 ∧ c ≠ 125 ∧ c ≠ 35 := by
  simp [isD] at h
  omega

set_option maxHeartbeats 800000 in
theorem delim_any (c : Int) (w : World) : Calls Try.prog 17 #[.int .u8 c] w fun e w' => e = .returned (.bool (isD c)) ∧ w' = w := by
  cases h : isD c with
  | true =>
    have hc := isD_or h
    clear h
    rcases hc with rfl | rfl | rfl | rfl | rfl | rfl | rfl | rfl
    all_goals
      go_enter Try.func17, Try.ntmps17
      go_wp2
      go_ret
      exact ⟨rfl, rfl⟩
  | false =>
    obtain ⟨d1, d2, d3, d4, d5, d6, d7, d8⟩ := isD_not h
    clear h
    go_enter Try.func17, Try.ntmps17
    go_wp2
    go_ret
    exact ⟨rfl, rfl⟩

set_option maxHeartbeats 400000 in
theorem digit_any (c : Int) (w : World) : Calls Try.prog 19 #[.int .u8 c] w fun e w' => e = .returned (.bool (isN c)) ∧ w' = w := by
  by_cases h1 : 48 ≤ c
  · by_cases h2 : c ≤ 57
    · have e : isN c = true := by unfold isN; rw [decide_eq_true h1, decide_eq_true h2]; rfl
      rw [e]
      clear e
      go_enter Try.func19, Try.ntmps19
      go_wp2
      go_ret
      exact ⟨rfl, rfl⟩
    · have e : isN c = false := by unfold isN; rw [decide_eq_true h1, decide_eq_false h2]; rfl
      rw [e]
      clear e
      go_enter Try.func19, Try.ntmps19
      go_wp2
      go_ret
      exact ⟨rfl, rfl⟩
  · have e : isN c = false := by unfold isN; rw [decide_eq_false h1]; rfl
    rw [e]
    clear e
    go_enter Try.func19, Try.ntmps19
    go_wp2
    go_ret
    exact ⟨rfl, rfl⟩

/-- The delimiter's contract at a byte of the text. -/
theorem delim_at (text : ByteArray) (p : Nat) (h : p < text.size) (b : Bool) (hb : isD (bt text p) = b) (w : World) :
    Calls Try.prog 17 #[.int .u8 ((text[p].toNat : Nat) : Int)] w fun e w' => e = .returned (.bool b) ∧ w' = w := by
  have := delim_any ((text[p].toNat : Nat) : Int) w
  rw [bt_eq text p h] at this ⊢
  rw [hb] at this
  exact this

set_option maxHeartbeats 800000 in
theorem head_no (text : ByteArray) (i : Nat) (w : World) (h : i + 11 < text.size) (hsz : text.size ≤ 1048576) (h4 : bt text (i + 4) ≠ 45) :
    Calls Try.prog 18 #[.string text, .int .i64 i] w fun e w' => e = .returned (.bool false) ∧ w' = w := by
  have l4 : i + 4 < text.size := by omega
  have b4 := bt_eq text (i + 4) l4
  have e4 : (((text[i + 4].toNat : Nat) : Int) != 45) = true := by rw [b4, bne_iff_ne]; exact h4
  clear b4 h4
  go_enter Try.func18, Try.ntmps18
  go_wp2
  go_ret
  exact ⟨rfl, rfl⟩

set_option maxHeartbeats 1600000 in
theorem head_run (text : ByteArray) (i : Nat) (w : World) (h : i + 11 < text.size) (hsz : text.size ≤ 1048576) (h4 : bt text (i + 4) = 45) :
    Calls Try.prog 18 #[.string text, .int .i64 i] w fun e w' => e = .returned (.bool (decide (i + 10 ≤ fin text i))) ∧ w' = w := by
  have l4 : i + 4 < text.size := by omega
  have b4 := bt_eq text (i + 4) l4
  have e4 : (((text[i + 4].toNat : Nat) : Int) != 45) = false := by rw [b4, h4]; rfl
  clear b4 h4
  go_enter Try.func18, Try.ntmps18
  go_wp2
  go_loop [5] (fun v => ∃ p : Nat, i ≤ p ∧ p ≤ i + 10 ∧ p ≤ fin text i ∧ v = .int .i64 p) (fun v => i + 10 - (intOf v).toNat)
  case atStart => exact ⟨i, Nat.le_refl _, by omega, fin_ge text i, rfl⟩
  case round =>
    obtain ⟨p, p1, p2, p3, rfl⟩ := hrel
    by_cases hp : p < i + 10
    · have hps : p < text.size := by omega
      have hpi : (p : Int) < (i : Int) + 10 := by omega
      by_cases hpf : p < fin text i
      · have HC : Hid (∀ w, _) := delim_at text p hps false (fin_in text i p (by omega) p1 hpf)
        go_wp2_with (go_at_call 17; refine (HC.out _).mono ?_; rintro e w' ⟨rfl, rfl⟩)
        go_round
        case rel => exact ⟨p + 1, by omega, by omega, by omega, by go_num⟩
        case measure => simp [intOf]; omega
      · have hpe : fin text i = p := by omega
        have HC : Hid (∀ w, _) := delim_at text p hps true (by have := fin_at text i (by omega) (by omega); rw [hpe] at this; exact this)
        have HR : Hid (decide (i + 10 ≤ fin text i) = false) := decide_eq_false (by omega)
        clear hpe p3 hpf
        go_wp2_with (go_at_call 17; refine (HC.out _).mono ?_; rintro e w' ⟨rfl, rfl⟩)
        go_ret
        exact ⟨by rw [HR.out]; rfl, rfl⟩
    · have hpi : ¬ (p : Int) < (i : Int) + 10 := by omega
      have HR : Hid (decide (i + 10 ≤ fin text i) = true) := decide_eq_true (by omega)
      clear p3
      go_wp2
      go_ret
      exact ⟨by rw [HR.out]; rfl, rfl⟩

set_option maxRecDepth 100000 in
set_option maxHeartbeats 800000 in
theorem law_short (text : ByteArray) (i line : Int) (w : World) (hb : text.size ≤ 9223372036854775807) (h : 1048576 < text.size ∨ i < 0) :
    Calls Try.prog 6 #[.string text, .int .i64 i, .int .i64 line] w fun e w' => e = .returned (.bool true) ∧ w' = w := by
  by_cases h1 : (1048576 : Int) < text.size
  · clear h
    go_enter Try.func6, Try.ntmps6
    go_wp2
    go_ret
    exact ⟨rfl, rfl⟩
  have h2 : i < 0 := by omega
  clear h
  go_enter Try.func6, Try.ntmps6
  go_wp2
  go_ret
  exact ⟨rfl, rfl⟩

/-- What the law's last loop asks, where a run begins at i. -/
theorem res_facts (text : ByteArray) (i : Nat) (hlt : i < text.size) (hd : isD (bt text i) = false) :
    i < res text i ∧ res text i ≤ text.size ∧ (res text i < text.size → isD (bt text (res text i)) = true) ∧ (date text i = true → res text i ≠ i + 10) ∧
    ∀ p, i ≤ p → p < res text i → (isD (bt text p) = true → date text i = true ∧ p = i + 10) := by
  have hif : i < fin text i := by
    rw [fin_step text i hlt hd]
    have := fin_ge text (i + 1)
    omega
  have hfs := fin_le text i (by omega)
  unfold res
  rw [if_neg (by omega), if_neg (by rw [hd]; simp)]
  cases hdt : date text i with
  | true =>
    simp [date] at hdt
    obtain ⟨⟨⟨⟨a1, a2⟩, a3⟩, a4⟩, a5⟩ := hdt
    rw [if_pos rfl]
    have hg := fin_ge text (i + 11)
    refine ⟨by omega, fin_le text (i + 11) (by omega), fin_at text (i + 11) (by omega), fun _ => by omega, ?_⟩
    intro p h1 h2 h3
    refine ⟨rfl, ?_⟩
    by_cases c1 : p < i + 10
    · rw [fin_in text i p (by omega) h1 (by omega)] at h3
      cases h3
    · by_cases c2 : p = i + 10
      · exact c2
      · rw [fin_in text (i + 11) p (by omega) (by omega) h2] at h3
        cases h3
  | false =>
    rw [if_neg (by simp)]
    refine ⟨hif, hfs, fin_at text i (by omega), (fun h => by cases h), ?_⟩
    intro p h1 h2 h3
    rw [fin_in text i p (by omega) h1 h2] at h3
    cases h3

set_option maxRecDepth 100000 in
set_option maxHeartbeats 3200000 in
theorem law_main (text : ByteArray) (i : Nat) (line : Int) (w : World) (hi : i ≤ 9223372036854775807) (hsz : text.size ≤ 1048576) :
    Calls Try.prog 6 #[.string text, .int .i64 i, .int .i64 line] w fun e w' => e = .returned (.bool true) ∧ Below w.heap.size w w' := by
  have HZ : Hid (Calls Try.prog 16 #[.string text, .int .i64 i, .int .i64 line] w fun e w' => e = .returned (.tuple #[.int .i64 (res text i), .int .i64 line]) ∧ Below w.heap.size w w') := zz_any text i line w hi hsz
  by_cases hA : text.size ≤ i
  · have hr : res text i = i := by unfold res; rw [if_pos hA]
    rw [hr] at HZ
    clear hr
    go_enter Try.func6, Try.ntmps6
    go_wp2_with (first | (go_at_call 16; refine HZ.out.mono ?_; rintro e w1 ⟨rfl, hb⟩) | (go_at_call 15; go_in))
    go_ret
    exact ⟨rfl, hb⟩
  have hlt : i < text.size := by omega
  cases hd : isD (bt text i) with
  | true =>
    have hr : res text i = i + 1 := by unfold res; rw [if_neg hA, if_pos hd]
    rw [hr] at HZ
    have HC : Hid (∀ w, _) := delim_at text i hlt true hd
    clear hr hd
    go_enter Try.func6, Try.ntmps6
    go_wp2_with (first | (go_at_call 16; refine HZ.out.mono ?_; rintro e w1 ⟨rfl, hb⟩) | (go_at_call 15; go_in) | (go_at_call 17; refine (HC.out _).mono ?_; rintro e w' ⟨rfl, rfl⟩))
    go_ret
    exact ⟨rfl, hb⟩
  | false =>
    obtain ⟨r1, r2, r3, r4, r5⟩ := res_facts text i hlt hd
    have HC : Hid (∀ w, _) := delim_at text i hlt false hd
    obtain ⟨j, hj⟩ : ∃ j, res text i = j := ⟨_, rfl⟩
    rw [hj] at r1 r2 r3 r4 r5 HZ
    clear hj
    have R3 : Hid (j < text.size → isD (bt text j) = true) := r3
    have R4 : Hid (date text i = true → j ≠ i + 10) := r4
    have R5 : Hid (∀ p, i ≤ p → p < j → (isD (bt text p) = true → date text i = true ∧ p = i + 10)) := r5
    clear r3 r4 r5 hd
    go_enter Try.func6, Try.ntmps6
    go_upto_region 17 with (first | (go_at_call 16; refine HZ.out.mono ?_; rintro e w1 ⟨rfl, hb⟩; have HB : Hid (Below w.heap.size w w1) := hb; clear hb) | (go_at_call 15; go_in) | (go_at_call 17; refine (HC.out _).mono ?_; rintro e w2 ⟨rfl, hw2⟩; subst hw2))
    clear HZ HC
    go_cut [65] (fun v wc => v = .bool false ∧ Below w.heap.size w wc)
    case first =>
      by_cases hjs : j < text.size
      · have HCj : Hid (∀ w, _) := delim_at text j hjs true (R3.out hjs)
        go_wp2_with (go_at_call 17; refine (HCj.out _).mono ?_; rintro e w9 ⟨rfl, hw9⟩; subst hw9)
        go_meet
        case rel => exact ⟨rfl, HB.out⟩
      · go_wp2_with fail
        go_meet
        case rel => exact ⟨rfl, HB.out⟩
    case rest =>
      obtain ⟨rfl, hb⟩ := hcut
      clear HB
      have HB : Hid (Below w.heap.size w wc) := hb
      clear hb
      go_upto_region 19 with fail
      go_cut [10] (fun v wc => v = .bool (date text i) ∧ Below w.heap.size w wc)
      case first =>
        by_cases k1 : i + 11 < text.size
        · have k1i : (i : Int) + 11 < (text.size : Int) := by omega
          by_cases k2 : bt text (i + 4) = 45
          · have HH : Hid (∀ w, _) := fun w => head_run text i w k1 hsz k2
            have l10 : i + 10 < text.size := by omega
            have b10 := bt_eq text (i + 10) l10
            have hx10 := index_at text (i + 10) ((i : Int) + 10) (by omega) l10
            have hx11 := index_at text (i + 11) ((i : Int) + 11) (by omega) k1
            have b11 := bt_eq text (i + 11) k1
            by_cases k3 : i + 10 ≤ fin text i
            · rw [decide_eq_true k3] at HH
              by_cases k4 : bt text (i + 10) = 32
              · have e10 : (((text[i + 10].toNat : Nat) : Int) == 32) = true := by rw [b10, k4]; rfl
                have hfin : fin text i = i + 10 := by
                  by_cases e : i + 10 < fin text i
                  · have := fin_in text i (i + 10) (by omega) (by omega) e
                    rw [k4] at this
                    cases this
                  · omega
                have HD : Hid (∀ w, Calls Try.prog 19 #[.int .u8 ((text[i + 11].toNat : Nat) : Int)] w fun e w' => e = .returned (.bool (date text i)) ∧ w' = w) := fun w => by
                  have := digit_any ((text[i + 11].toNat : Nat) : Int) w
                  rw [show isN ((text[i + 11].toNat : Nat) : Int) = date text i by rw [b11]; simp [date, k1, hfin, k2, k4]] at this
                  exact this
                obtain ⟨dt, hdt⟩ : ∃ dt, date text i = dt := ⟨_, rfl⟩
                rw [hdt] at HD
                have HDT : Hid (date text i = dt) := hdt
                clear hfin b10 b11 k2 k3 k4 hdt
                go_wp2_with (first | (go_at_call 18; refine (HH.out _).mono ?_; rintro e w9 ⟨rfl, hw9⟩; subst hw9) | (go_at_call 19; refine (HD.out _).mono ?_; rintro e w9 ⟨rfl, hw9⟩; subst hw9))
                go_meet
                case rel => exact ⟨by rw [HDT.out], HB.out⟩
              · have e10 : (((text[i + 10].toNat : Nat) : Int) == 32) = false := by rw [b10, beq_eq_false_iff_ne]; exact k4
                have HDT : Hid (date text i = false) := by
                  show date text i = false
                  have : (bt text (i + 10) == 32) = false := by rw [beq_eq_false_iff_ne]; exact k4
                  simp [date, this]
                clear b10 b11 k2 k3 k4
                go_wp2_with (go_at_call 18; refine (HH.out _).mono ?_; rintro e w9 ⟨rfl, hw9⟩; subst hw9)
                go_meet
                case rel => exact ⟨by rw [HDT.out], HB.out⟩
            · rw [decide_eq_false k3] at HH
              have HDT : Hid (date text i = false) := by
                show date text i = false
                have : decide (fin text i = i + 10) = false := decide_eq_false (by omega)
                simp only [date, this, Bool.and_false, Bool.false_and]
              clear b10 b11 k2 k3
              go_wp2_with (go_at_call 18; refine (HH.out _).mono ?_; rintro e w9 ⟨rfl, hw9⟩; subst hw9)
              go_meet
              case rel => exact ⟨by rw [HDT.out], HB.out⟩
          · have HH : Hid (∀ w, _) := fun w => head_no text i w k1 hsz k2
            have HDT : Hid (date text i = false) := by
              show date text i = false
              have : (bt text (i + 4) == 45) = false := by rw [beq_eq_false_iff_ne]; exact k2
              simp [date, this]
            clear k2
            go_wp2_with (go_at_call 18; refine (HH.out _).mono ?_; rintro e w9 ⟨rfl, hw9⟩; subst hw9)
            go_meet
            case rel => exact ⟨by rw [HDT.out], HB.out⟩
        · have k1i : ¬ (i : Int) + 11 < (text.size : Int) := by omega
          have HDT : Hid (date text i = false) := by
            show date text i = false
            simp only [date, decide_eq_false k1, Bool.false_and]
          go_wp2_with fail
          go_meet
          case rel => exact ⟨by rw [HDT.out], HB.out⟩
      case rest =>
        obtain ⟨rfl, hb⟩ := hcut
        clear HB
        have HB : Hid (Below w.heap.size w wc) := hb
        clear hb
        obtain ⟨dt, hdt⟩ : ∃ dt, date text i = dt := ⟨_, rfl⟩
        rw [hdt] at R4 R5 ⊢
        clear hdt
        go_wp2_with fail
        go_loopw [11] (fun v wr => ∃ p : Nat, i ≤ p ∧ p ≤ j ∧ v = .int .i64 p ∧ Below w.heap.size w wr) (fun v _ => j - (intOf v).toNat)
        case atStart => exact ⟨i, Nat.le_refl _, by omega, rfl, HB.out⟩
        case round =>
          obtain ⟨p, p1, p2, rfl, hb⟩ := hrel
          clear HB
          have HB : Hid (Below w.heap.size w wr) := hb
          clear hb
          by_cases hp : p < j
          · have hps : p < text.size := by omega
            cases hd : isD (bt text p) with
            | false =>
              have HCp : Hid (∀ w, _) := delim_at text p hps false hd
              clear hd
              go_wp2_with (go_at_call 17; refine (HCp.out _).mono ?_; rintro e w9 ⟨rfl, hw9⟩; subst hw9)
              go_roundw
              case rel => exact ⟨p + 1, by omega, by omega, by go_num, HB.out⟩
              case measure => simp [intOf]; omega
            | true =>
              have HCp : Hid (∀ w, _) := delim_at text p hps true hd
              obtain ⟨e1, e2⟩ := R5.out p p1 hp hd
              have hpe : ((p : Int) == (i : Int) + 10) = true := by rw [beq_iff_eq]; omega
              subst e1
              clear hd e2
              go_wp2_with (go_at_call 17; refine (HCp.out _).mono ?_; rintro e w9 ⟨rfl, hw9⟩; subst hw9)
              go_roundw
              case rel => exact ⟨p + 1, by omega, by omega, by go_num, HB.out⟩
              case measure => simp [intOf]; omega
          · cases dt with
            | false =>
              go_wp2_with fail
              go_ret
              exact ⟨rfl, HB.out⟩
            | true =>
              have hje : ((j : Int) == (i : Int) + 10) = false := by rw [beq_eq_false_iff_ne]; have := R4.out rfl; omega
              go_wp2_with fail
              go_ret
              exact ⟨rfl, HB.out⟩
end Go.Proofs.Qxb6605384a.Sc
