import Derived.Test.Qxb6605384aWalks
namespace Go.Proofs.Qxb6605384a.Sc
open Go.RowKit
set_option linter.unusedVariables false

set_option maxHeartbeats 400000 in
theorem isDigit_any (c : Int) (w : World) : Calls Try.prog 29 #[.int .u8 c] w fun e w' => e = .returned (.bool (isN c)) ∧ w' = w := by
  by_cases h1 : 48 ≤ c
  · by_cases h2 : c ≤ 57
    · have e : isN c = true := by unfold isN; rw [decide_eq_true h1, decide_eq_true h2]; rfl
      rw [e]
      go_enter Try.func29, Try.ntmps29
      go_wp2
      go_ret
      exact ⟨rfl, rfl⟩
    · have e : isN c = false := by unfold isN; rw [decide_eq_true h1, decide_eq_false h2]; rfl
      rw [e]
      clear e
      go_enter Try.func29, Try.ntmps29
      go_wp2
      go_ret
      exact ⟨rfl, rfl⟩
  · have e : isN c = false := by unfold isN; rw [decide_eq_false h1]; rfl
    rw [e]
    clear e
    go_enter Try.func29, Try.ntmps29
    go_wp2
    go_ret
    exact ⟨rfl, rfl⟩

set_option maxHeartbeats 1600000 in
/-- At or past the end: nothing moves. -/
theorem scalar_A (t : Nat) (w0 : World) (text : ByteArray) (i : Nat) (line : Int) (w : World) (hi : i ≤ 9223372036854775807) (hsz : text.size ≤ 1048576) (h : Scan t w0 text i line w) (hge : text.size ≤ i) :
    Calls Try.prog 24 #[.pointer (some ⟨t, 0, none⟩)] w fun e w' => e = .returned (.tuple #[]) ∧ Scan t w0 text i line w' := by
  have HE := toEnd t w0 text i line w hi hsz h
  rw [fin_end text i hge] at HE
  have HE' : Hid (Calls Try.prog 28 _ _ _) := HE
  clear HE
  obtain ⟨c0, c1, c2, fz, _⟩ := h
  have hd : decide ((i : Int) < (text.size : Int)) = false := decide_eq_false (by omega)
  go_enter Try.func24, Try.ntmps24
  go_wp2_with (go_at_call 28; refine HE'.out.mono ?_; rintro e w1 ⟨rfl, hS⟩; have HS : Hid _ := hS; obtain ⟨d0, d1, d2, gz, _⟩ := hS)
  go_quiet (fail)
  go_wp2_with fail
  go_quiet (fail)
  go_wp2_with fail
  go_end0
  exact ⟨rfl, (HS.out.drewN _).drewN _⟩

set_option maxHeartbeats 1600000 in
/-- At a delimiter: one byte. -/
theorem scalar_B (t : Nat) (w0 : World) (text : ByteArray) (i : Nat) (line : Int) (w : World) (hsz : text.size ≤ 1048576) (h : Scan t w0 text i line w) (hlt : i < text.size) (hd : isD (bt text i) = true) :
    Calls Try.prog 24 #[.pointer (some ⟨t, 0, none⟩)] w fun e w' => e = .returned (.tuple #[]) ∧ Scan t w0 text (i + 1 : Nat) line w' := by
  have HE := toEnd t w0 text i line w (by omega) hsz h
  rw [fin_stop text i hlt hd] at HE
  have HE' : Hid (Calls Try.prog 28 _ _ _) := HE
  clear HE hd
  obtain ⟨c0, c1, c2, fz, _⟩ := h
  have hlti : (i : Int) < (text.size : Int) := by omega
  go_enter Try.func24, Try.ntmps24
  go_wp2_with (go_at_call 28; refine HE'.out.mono ?_; rintro e w1 ⟨rfl, hS⟩; have HS : Hid _ := hS; obtain ⟨d0, d1, d2, gz, _⟩ := hS)
  have HS2 : Hid (∀ n, Scan t w0 text (i + 1 : Nat) line ((w1.drewN n).setCell ⟨t, 1, none⟩ (.int .i64 ((i : Int) + 1)))) := fun n => by
    have := (HS.out.drewN n).store ((i : Int) + 1)
    exact this
  go_quiet (fail)
  go_wp2_with fail
  go_quiet (fail)
  go_wp2_with fail
  go_end0
  exact ⟨rfl, HS2.out _⟩

/-- text[p], p reckoned. -/
theorem index_at (text : ByteArray) (p : Nat) (x : Int) (hx : x = (p : Int)) (h : p < text.size) (w : World) : (Instr.index 9 (.string text) (.int .i64 x)).run Try.prog w = .ok (.int .u8 ((text[p].toNat : Nat) : Int)) w := by
  subst hx
  rw [run_index_string (P := Try.prog) w 9 text .i64 p Try.underlying9]
  simp [h]

set_option maxHeartbeats 3200000 in
/-- A run that no date blank follows. -/
theorem scalar_C (t : Nat) (w0 : World) (text : ByteArray) (i f : Nat) (line : Int) (w : World) (hsz : text.size ≤ 1048576) (h : Scan t w0 text i line w) (hif : i < f) (hf : fin text i = f) (hfs : f ≤ text.size)
    (hno : ¬ (f = i + 10 ∧ bt text (i + 4) = 45 ∧ f + 1 < text.size ∧ bt text f = 32 ∧ isN (bt text (f + 1)) = true)) :
    Calls Try.prog 24 #[.pointer (some ⟨t, 0, none⟩)] w fun e w' => e = .returned (.tuple #[]) ∧ Scan t w0 text f line w' := by
  have HE := toEnd t w0 text i line w (by omega) hsz h
  rw [hf] at HE
  have HE' : Hid (Calls Try.prog 28 _ _ _) := HE
  clear HE hf
  obtain ⟨c0, c1, c2, fz, _⟩ := h
  have hne : ((f : Int) == (i : Int)) = false := by rw [beq_eq_false_iff_ne]; omega
  have h4 : i + 4 < text.size ∨ f ≠ i + 10 := by omega
  by_cases h1 : f = i + 10
  · have h4 : i + 4 < text.size := by omega
    have e1 : ((f : Int) - (i : Int) == 10) = true := by rw [beq_iff_eq]; omega
    have b4 := bt_eq text (i + 4) h4
    by_cases h2 : bt text (i + 4) = 45
    · have e4 : (((text[i + 4].toNat : Nat) : Int) == 45) = true := by rw [b4, h2]; rfl
      clear b4
      by_cases h3 : f + 1 < text.size
      · have b10 := bt_eq text f (by omega)
        have b11 := bt_eq text (f + 1) h3
        have hfl : f < text.size := by omega
        have h3i : (f : Int) + 1 < (text.size : Int) := by omega
        by_cases h5 : bt text f = 32
        · have e10 : (((text[f].toNat : Nat) : Int) == 32) = true := by rw [b10, h5]; rfl
          have h6 : isN (bt text (f + 1)) = false := by
            cases hc : isN (bt text (f + 1)) with
            | false => rfl
            | true => exact absurd ⟨h1, h2, h3, h5, hc⟩ hno
          have HD : Hid (∀ w k, Calls Try.prog 29 #[.int .u8 ((text[f + 1].toNat : Nat) : Int)] (World.drewN w k) fun e w' => e = .returned (.bool false) ∧ ∃ n, w' = World.drewN w n) := fun w k => by
            have := isDigit_any ((text[f + 1].toNat : Nat) : Int) (World.drewN w k)
            rw [show isN ((text[f + 1].toNat : Nat) : Int) = false by rw [b11]; exact h6] at this
            exact this.mono fun e w' h => ⟨h.1, k, h.2⟩
          have hwr : IntKind.i64.wrap ((f : Int) + 1) = (f : Int) + 1 := wrap_small _ (by omega) (by omega)
          have hix := index_at text (f + 1) ((f : Int) + 1) (by omega) h3
          clear hno h2 h5 b10 b11 h6 h1
          go_enter Try.func24, Try.ntmps24
          go_wp2_with (go_at_call 28; refine HE'.out.mono ?_; rintro e w1 ⟨rfl, hS⟩; have HS : Hid _ := hS; obtain ⟨d0, d1, d2, gz, _⟩ := hS)
          go_quiet ((go_at_call 29; go_must (exact HD.out _ _)))
          go_wp2_with fail
          go_quiet (fail)
          go_wp2_with fail
          go_end0
          exact ⟨rfl, (HS.out.drewN _).drewN _⟩
        · have e10 : (((text[f].toNat : Nat) : Int) == 32) = false := by rw [b10, beq_eq_false_iff_ne]; exact h5
          clear b10 b11 hno h5 h2 h1
          go_enter Try.func24, Try.ntmps24
          go_wp2_with (go_at_call 28; refine HE'.out.mono ?_; rintro e w1 ⟨rfl, hS⟩; have HS : Hid _ := hS; obtain ⟨d0, d1, d2, gz, _⟩ := hS)
          go_quiet (fail)
          go_wp2_with fail
          go_quiet (fail)
          go_wp2_with fail
          go_end0
          exact ⟨rfl, (HS.out.drewN _).drewN _⟩
      · have h3d : decide ((f : Int) + 1 < (text.size : Int)) = false := decide_eq_false (by omega)
        clear hno h2 h1
        go_enter Try.func24, Try.ntmps24
        go_wp2_with (go_at_call 28; refine HE'.out.mono ?_; rintro e w1 ⟨rfl, hS⟩; have HS : Hid _ := hS; obtain ⟨d0, d1, d2, gz, _⟩ := hS)
        go_quiet (fail)
        go_wp2_with fail
        go_quiet (fail)
        go_wp2_with fail
        go_end0
        exact ⟨rfl, (HS.out.drewN _).drewN _⟩
    · have e4 : (((text[i + 4].toNat : Nat) : Int) == 45) = false := by rw [b4, beq_eq_false_iff_ne]; exact h2
      clear b4 hno h2 h1
      go_enter Try.func24, Try.ntmps24
      go_wp2_with (go_at_call 28; refine HE'.out.mono ?_; rintro e w1 ⟨rfl, hS⟩; have HS : Hid _ := hS; obtain ⟨d0, d1, d2, gz, _⟩ := hS)
      go_quiet (fail)
      go_wp2_with fail
      go_quiet (fail)
      go_wp2_with fail
      go_end0
      exact ⟨rfl, (HS.out.drewN _).drewN _⟩
  · have e1 : ((f : Int) - (i : Int) == 10) = false := by rw [beq_eq_false_iff_ne]; omega
    clear hno h1 h4
    go_enter Try.func24, Try.ntmps24
    go_wp2_with (go_at_call 28; refine HE'.out.mono ?_; rintro e w1 ⟨rfl, hS⟩; have HS : Hid _ := hS; obtain ⟨d0, d1, d2, gz, _⟩ := hS)
    go_quiet (fail)
    go_wp2_with fail
    go_quiet (fail)
    go_wp2_with fail
    go_end0
    exact ⟨rfl, (HS.out.drewN _).drewN _⟩

set_option maxHeartbeats 3200000 in
/-- A date, its blank, and what follows. -/
theorem scalar_D (t : Nat) (w0 : World) (text : ByteArray) (i f : Nat) (line : Int) (w : World) (hsz : text.size ≤ 1048576) (h : Scan t w0 text i line w) (h1 : f = i + 10) (hf : fin text i = f)
    (h2 : bt text (i + 4) = 45) (h3 : f + 1 < text.size) (h5 : bt text f = 32) (h6 : isN (bt text (f + 1)) = true) :
    Calls Try.prog 24 #[.pointer (some ⟨t, 0, none⟩)] w fun e w' => e = .returned (.tuple #[]) ∧ Scan t w0 text (fin text (f + 1)) line w' := by
  have HE := toEnd t w0 text i line w (by omega) hsz h
  rw [hf] at HE
  have HE' : Hid (Calls Try.prog 28 _ _ _) := HE
  clear HE hf
  obtain ⟨c0, c1, c2, fz, _⟩ := h
  have h4 : i + 4 < text.size := by omega
  have e1 : ((f : Int) - (i : Int) == 10) = true := by rw [beq_iff_eq]; omega
  have b4 := bt_eq text (i + 4) h4
  have e4 : (((text[i + 4].toNat : Nat) : Int) == 45) = true := by rw [b4, h2]; rfl
  have hfl : f < text.size := by omega
  have b10 := bt_eq text f hfl
  have b11 := bt_eq text (f + 1) h3
  have h3i : (f : Int) + 1 < (text.size : Int) := by omega
  have e10 : (((text[f].toNat : Nat) : Int) == 32) = true := by rw [b10, h5]; rfl
  have HD : Hid (∀ w k, Calls Try.prog 29 #[.int .u8 ((text[f + 1].toNat : Nat) : Int)] (World.drewN w k) fun e w' => e = .returned (.bool true) ∧ ∃ n, w' = World.drewN w n) := fun w k => by
    have := isDigit_any ((text[f + 1].toNat : Nat) : Int) (World.drewN w k)
    rw [show isN ((text[f + 1].toNat : Nat) : Int) = true by rw [b11]; exact h6] at this
    exact this.mono fun e w' h => ⟨h.1, k, h.2⟩
  have hwr : IntKind.i64.wrap ((f : Int) + 1) = (f : Int) + 1 := wrap_small _ (by omega) (by omega)
  have hix := index_at text (f + 1) ((f : Int) + 1) (by omega) h3
  obtain ⟨g, hg⟩ : ∃ g, fin text (f + 1) = g := ⟨_, rfl⟩
  have hgf : f + 1 ≤ g := by rw [← hg]; exact fin_ge text (f + 1)
  have hne : ((g : Int) == (i : Int)) = false := by rw [beq_eq_false_iff_ne]; omega
  have HE2 : Hid (∀ w, Scan t w0 text (f + 1 : Nat) line w → Calls Try.prog 28 #[.pointer (some ⟨t, 0, none⟩)] w fun e w' => e = .returned (.tuple #[]) ∧ Scan t w0 text g line w') := fun w hS => by
    have := toEnd t w0 text (f + 1) line w (by omega) hsz hS
    rw [hg] at this
    exact this
  rw [hg]
  clear h2 h5 b10 b11 h6 h1 b4 hg
  go_enter Try.func24, Try.ntmps24
  go_wp2_with (go_at_call 28; refine HE'.out.mono ?_; rintro e w1 ⟨rfl, hS⟩; have HS : Hid _ := hS; obtain ⟨d0, d1, d2, gz, _⟩ := hS)
  go_quiet ((go_at_call 29; exact HD.out _ _))
  have HS2 : Hid (∀ n, Scan t w0 text (f + 1 : Nat) line ((w1.drewN n).setCell ⟨t, 1, none⟩ (.int .i64 ((f : Int) + 1)))) := fun n => by
    have := (HS.out.drewN n).store ((f : Int) + 1)
    exact this
  go_wp2_with fail
  refine (HE2.out _ (HS2.out _)).mono ?_
  rintro e w5 ⟨rfl, hS5⟩
  have HS5 : Hid _ := hS5
  obtain ⟨k0, k1, k2, kz, _⟩ := hS5
  clear HE2 HS2 HS HE' c0 c1 c2 fz d0 d1 d2 gz
  go_wp2_with fail
  go_quiet (fail)
  go_wp2_with fail
  go_end0
  exact ⟨rfl, HS5.out.drewN _⟩

/-- skipScalar: where it ends. -/
theorem scalar_any (t : Nat) (w0 : World) (text : ByteArray) (i : Nat) (line : Int) (w : World) (hi : i ≤ 9223372036854775807) (hsz : text.size ≤ 1048576) (h : Scan t w0 text i line w) :
    Calls Try.prog 24 #[.pointer (some ⟨t, 0, none⟩)] w fun e w' => e = .returned (.tuple #[]) ∧ Scan t w0 text (res text i) line w' := by
  unfold res
  by_cases hA : text.size ≤ i
  · rw [if_pos hA]
    exact scalar_A t w0 text i line w hi hsz h hA
  · rw [if_neg hA]
    have hlt : i < text.size := by omega
    cases hd : isD (bt text i) with
    | true =>
      rw [if_pos rfl]
      exact scalar_B t w0 text i line w hsz h hlt hd
    | false =>
      rw [if_neg (by simp)]
      have hif : i < fin text i := by
        rw [fin_step text i hlt hd]
        have := fin_ge text (i + 1)
        omega
      have hfs := fin_le text i (by omega)
      cases hdt : date text i with
      | true =>
        rw [if_pos rfl]
        simp [date] at hdt
        obtain ⟨⟨⟨⟨a1, a2⟩, a3⟩, a4⟩, a5⟩ := hdt
        exact scalar_D t w0 text i (i + 10) line w hsz h rfl a2 a3 a1 a4 a5
      | false =>
        rw [if_neg (by simp)]
        refine scalar_C t w0 text i (fin text i) line w hsz h hif rfl hfs ?_
        rintro ⟨a1, a2, a3, a4, a5⟩
        rw [a1] at a3 a4 a5
        have : date text i = true := by
          simp [date, a1, a2, a4]
          exact ⟨by omega, a5⟩
        rw [this] at hdt
        cases hdt

set_option maxHeartbeats 800000 in
theorem zz_any (text : ByteArray) (i : Nat) (line : Int) (w : World) (hi : i ≤ 9223372036854775807) (hsz : text.size ≤ 1048576) :
    Calls Try.prog 16 #[.string text, .int .i64 i, .int .i64 line] w fun e w' => e = .returned (.tuple #[.int .i64 (res text i), .int .i64 line]) ∧ Below w.heap.size w w' := by
  have HS0 : Hid (Scan w.heap.size w text i line (w.alloc (.cells #[.string text, .int .i64 i, .int .i64 line] 33))) := by
    refine ⟨?_, ?_, ?_, ?_, (Below.refl _ _).alloc (Nat.le_refl _) _⟩ <;> simp [go_sem]
  go_enter Try.func16, Try.ntmps16
  go_wp2_with fail
  refine (scalar_any _ _ text i line _ hi hsz HS0.out).mono ?_
  rintro e w1 ⟨rfl, hS⟩
  have HB : Hid (∀ n, Below w.heap.size w (w1.drewN n)) := fun n => (hS.drewN n).below
  obtain ⟨d0, d1, d2, gz, _⟩ := hS
  clear HS0
  go_wp2_with fail
  go_quiet (fail)
  go_wp2_with fail
  go_ret2
  exact ⟨rfl, HB.out _⟩
end Go.Proofs.Qxb6605384a.Sc
