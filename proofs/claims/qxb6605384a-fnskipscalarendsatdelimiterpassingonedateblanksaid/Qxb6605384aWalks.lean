import Derived.Test.Qxb6605384aIr
import Derived.Test.Qxb6605384aPlain
import Derived.Below
import Derived.RegionTactic
namespace Go.Proofs.Qxb6605384a.Sc
open Go.RowKit
set_option linter.unusedVariables false

/-- The delimiters' text. -/
def DL : ByteArray := ⟨#[32, 9, 13, 10, 44, 93, 125, 35]⟩

theorem DL_ascii : ∀ i (h : i < DL.size), (DL[i]'h).toNat < 128 := by
  have h : ∀ i : Fin 8, (DL.data[i.val]'i.isLt).toNat < 128 := by decide
  intro i hi
  exact h ⟨i, hi⟩

set_option maxRecDepth 100000 in
theorem isD_table : ∀ n : Fin 128, decide (0 ≤ Lib.indexByte DL.data.toList n.val.toUInt8) = isD (n.val : Int) := by decide

theorem isD_high (n : Nat) (h : 128 ≤ n) : isD (n : Int) = false := by
  unfold isD
  have h1 : ∀ k : Int, k < 128 → ((n : Int) == k) = false := fun k hk => by rw [beq_eq_false_iff_ne]; omega
  rw [h1 32 (by omega), h1 9 (by omega), h1 13 (by omega), h1 10 (by omega), h1 44 (by omega), h1 93 (by omega), h1 125 (by omega), h1 35 (by omega)]
  rfl

set_option maxRecDepth 100000 in
set_option maxHeartbeats 1600000 in
theorem contains_high (r : Nat) (w : World) (h : 128 ≤ r) (h2 : r < 256) :
    Calls Try.prog 36 #[.string DL, .int .i32 r] w fun e w' => e = .returned (.bool false) ∧ ∃ n, w' = w.drewN n := by
  have key : ∀ w, Calls Try.prog 41 #[.string DL, .int .i32 r] w fun e w' => e = .returned (.int .i64 (-1)) ∧ ∃ n, w' = w.drewN n := fun w =>
    Ir.ir_high DL r w DL_ascii (by show 4 ≤ 8; omega) (by show 8 ≤ 1000; omega) (by omega) (by rw [beq_eq_false_iff_ne]; omega) (by omega)
  have HK : Hid (∀ w, Calls Try.prog 41 #[.string DL, .int .i32 r] w fun e w' => e = .returned (.int .i64 (-1)) ∧ ∃ n, w' = w.drewN n) := key
  obtain ⟨T, hT⟩ : ∃ T, DL = T := ⟨_, rfl⟩
  rw [hT] at HK ⊢
  clear key h h2 hT
  go_enter Try.func36, Try.ntmps36
  go_wp2_with (go_at_call 41; refine (HK.out _).mono ?_; rintro e w' ⟨rfl, hg⟩)
  go_ret
  exact ⟨rfl, hg⟩

/-- strings.ContainsRune(delimiters, rune(c)). -/
theorem contains (r : Nat) (w : World) (h : r < 256) :
    Calls Try.prog 36 #[.string DL, .int .i32 r] w fun e w' => e = .returned (.bool (isD r)) ∧ ∃ n, w' = w.drewN n := by
  by_cases hr : r < 128
  · refine (Try.strings_ContainsRune_ascii DL r w (by omega) (by omega)).mono ?_
    rintro e w' ⟨rfl, rfl⟩
    have ht := isD_table ⟨r, hr⟩
    refine ⟨?_, 0, rfl⟩
    rw [← ht]
    rfl
  · rw [isD_high r (by omega)]
    exact contains_high r w (by omega) h

/-- The scanner, at block t. -/
structure Scan (t : Nat) (w0 : World) (text : ByteArray) (i line : Int) (w : World) : Prop where
  c0 : w.cell? ⟨t, 0, none⟩ = some (.string text)
  c1 : w.cell? ⟨t, 1, none⟩ = some (.int .i64 i)
  c2 : w.cell? ⟨t, 2, none⟩ = some (.int .i64 line)
  fz : w.frozen? ⟨t, 1, none⟩ = false
  below : Below t w0 w

theorem Scan.drewN {t : Nat} {w0 : World} {text : ByteArray} {i line : Int} {w : World} (h : Scan t w0 text i line w) (n : Nat) : Scan t w0 text i line (w.drewN n) :=
  ⟨h.c0, h.c1, h.c2, h.fz, h.below.trans ⟨rfl, rfl, rfl, Nat.le_refl _, fun _ _ => rfl⟩⟩

theorem Scan.store {t : Nat} {w0 : World} {text : ByteArray} {i line : Int} {w : World} (h : Scan t w0 text i line w) (i' : Int) : Scan t w0 text i' line (w.setCell ⟨t, 1, none⟩ (.int .i64 i')) :=
  ⟨by rw [World.cell?_setCell_other _ _ _ _ (by simp)]; exact h.c0, World.cell?_setCell_same _ _ _ h.c1, by rw [World.cell?_setCell_other _ _ _ _ (by simp)]; exact h.c2, by rw [World.frozen?_setCell]; exact h.fz, h.below.setCell (Nat.le_refl _) _⟩

/-- How far the scanner has to go. -/
def left (t n : Nat) (w : World) : Nat := n - (intOf ((w.cell? ⟨t, 1, none⟩).getD (.bool false))).toNat

theorem left_eq {t : Nat} {w0 : World} {text : ByteArray} {i line : Int} {w : World} (h : Scan t w0 text i line w) (n : Nat) : left t n w = n - i.toNat := by
  unfold left
  rw [h.c1]
  rfl

set_option maxHeartbeats 1600000 in
theorem toEnd (t : Nat) (w0 : World) (text : ByteArray) (k : Nat) (line : Int) (w : World) (hk : k ≤ 9223372036854775807) (hsz : text.size ≤ 1048576) (h : Scan t w0 text k line w) :
    Calls Try.prog 28 #[.pointer (some ⟨t, 0, none⟩)] w fun e w' => e = .returned (.tuple #[]) ∧ Scan t w0 text (fin text k) line w' := by
  have HS : Hid (Scan t w0 text k line w) := h
  clear h
  go_enter Try.func28, Try.ntmps28
  go_wp2
  go_loopw [2] (fun _ wr => ∃ j : Nat, j ≤ 9223372036854775807 ∧ Scan t w0 text j line wr ∧ fin text j = fin text k) (fun _ wr => left t text.size wr)
  case atStart => exact ⟨k, hk, HS.out, rfl⟩
  case round =>
    obtain ⟨j, hj, hS, hf⟩ := hrel
    have HF : Hid (fin text j = fin text k) := hf
    have HSj : Hid (Scan t w0 text j line wr) := hS
    obtain ⟨c0, c1, c2, fz, _⟩ := hS
    clear hf HS
    by_cases hlt : j < text.size
    · have hb := bt_eq text j hlt
      have h256 : text[j].toNat < 256 := text[j].toNat_lt
      have HC : Hid (∀ k, Calls Try.prog 36 #[.string DL, .int .i32 (text[j].toNat : Nat)] (wr.drewN k) fun e w' => e = .returned (.bool (isD (bt text j))) ∧ ∃ n, w' = wr.drewN n) := fun k => by
        have hc := contains text[j].toNat (wr.drewN k) h256
        have he : isD ((text[j].toNat : Nat) : Int) = isD (bt text j) := by rw [hb]
        rw [he] at hc
        refine hc.mono ?_
        rintro e w' ⟨h1, n, h2⟩
        exact ⟨h1, k + n, by rw [h2, World.drewN_drewN]⟩
      have hji : (j : Int) < (text.size : Int) := by omega
      clear hb
      cases hd : isD (bt text j) with
      | true =>
        rw [hd] at HC
        have HF2 : Hid (fin text k = j) := HF.out.symm.trans (fin_stop text j hlt hd)
        clear hd HF
        go_wp2
        go_quiet ((go_at_call 36; exact HC.out _))
        go_wp2
        go_end0
        exact ⟨rfl, by rw [HF2.out]; exact HSj.out.drewN _⟩
      | false =>
        rw [hd] at HC
        have HF2 : Hid (fin text (j + 1) = fin text k) := (fin_step text j hlt hd).symm.trans HF.out
        clear hd HF
        go_wp2
        have HS2 : Hid (∀ n, Scan t w0 text (j + 1 : Nat) line ((wr.drewN n).setCell ⟨t, 1, none⟩ (.int .i64 ((j : Int) + 1)))) := fun n => by
          have := (HSj.out.drewN n).store ((j : Int) + 1)
          exact this
        go_quiet ((go_at_call 36; exact HC.out _))
        go_wp2
        go_roundw
        case rel => exact ⟨j + 1, by omega, HS2.out _, HF2.out⟩
        case measure => rw [left_eq (HS2.out _), left_eq HSj.out]; omega
    · have HF2 : Hid (fin text k = j) := HF.out.symm.trans (fin_end text j (by omega))
      have hd : decide ((j : Int) < (text.size : Int)) = false := decide_eq_false (by omega)
      clear HF
      go_wp2
      go_quiet (fail)
      go_wp2
      go_end0
      exact ⟨rfl, by rw [HF2.out]; exact HSj.out.drewN _⟩
end Go.Proofs.Qxb6605384a.Sc
