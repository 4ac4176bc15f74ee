import Derived.Test.Qxb6600528aSkPlain
import Derived.Test.Qxb6600528aShelf
import Derived.WalkKit
import Derived.WalkSpells
import Derived.Below
import Derived.Deep.OwnRows
import Derived.Outline
namespace Go.Proofs.Qxb6600528a.Sk
open Go.RowKit

theorem info5 : (Try.prog.info? 5).map (fun i => (i.zero, i.size, i.bytes)) = some (some (.int .u8 0), 1, 1) := by kernel_rfl

set_option maxHeartbeats 400000 in
theorem clone_nil (w : World) :
    Calls Try.prog 18 #[.slice none 0 0] w fun e w' => e = .returned (.slice none 0 0) ∧ w' = w := by
  have hq := fun (w : World) (a : Option Addr) (n c : Nat) => Lib.run_eql_slice_nil (P := Try.prog) w 25 5 a n c 0 0 Try.underlying25
  go_enter Try.func18, Try.ntmps18
  go_wp2
  go_ret
  exact ⟨rfl, rfl⟩

set_option maxHeartbeats 400000 in
theorem clone_some (x : Addr) (n c : Nat) (f : Nat → Int) (w : World) (hn : n ≤ 1048576) (hcell : ∀ i, i < n → w.cell? (x.add i) = some (.int .u8 (f i))) :
    Calls Try.prog 18 #[.slice (some x) n c] w fun e w' => e = .returned (.slice (some ⟨w.heap.size, 0, none⟩) n n) ∧ w'.rowIs w.heap.size 5 n (fun i => .int .u8 (f i)) ∧ Below w.heap.size w w' := by
  have hq := fun (w : World) (a : Option Addr) (n c : Nat) => Lib.run_eql_slice_nil (P := Try.prog) w 25 5 a n c 0 0 Try.underlying25
  have hmk := fun (w : World) => run_make_row' (P := Try.prog) 25 5 (.int .u8 0) 1 Try.underlying25 info5 rfl .i64 .i64 n (by omega) (by omega) w
  go_enter Try.func18, Try.ntmps18
  go_wp2
  go_loopw [4] (fun i wr => ∃ k : Nat, k ≤ n ∧ i = .int .i64 k ∧ wr.rowIs w.heap.size 5 n (fun j => .int .u8 (if j < k then f j else 0)) ∧ Below w.heap.size w wr) (fun i _ => n - (intOf i).toNat)
  case atStart => exact ⟨0, Nat.zero_le _, rfl, (World.rowIs_made w _ n 5).congr (fun i hi => by simp), (Below.refl _ _).alloc (Nat.le_refl _) _⟩
  case round =>
    obtain ⟨k, hk, rfl, hrow, hb⟩ := hrel
    by_cases hlt : k < n
    · have hc : wr.cell? (x.add k) = some (.int .u8 (f k)) := (hb.cell (World.block_lt_of_cell? _ _ (hcell k hlt))).trans (hcell k hlt)
      have hd := hrow.cell hlt
      have hf := hrow.frozen k
      have R1 := (hrow.set k (.int .u8 (f k))).congr (g := fun j => .int .u8 (if j < k + 1 then f j else 0)) (fun j hj => by
        by_cases e : j = k
        · subst e; simp
        · have : (j < k + 1) = (j < k) := by apply propext; omega
          simp [e, this])
      have R2 := hb.setCell (p := ⟨w.heap.size, k, none⟩) (Nat.le_refl _) (.int .u8 (f k))
      clear hrow hb hcell
      go_wp2
      go_roundw
      case rel => exact ⟨k + 1, by omega, by go_num, R1, R2⟩
      case measure => simp [intOf]; omega
    · have hk2 : k = n := by omega
      subst hk2
      have R1 := hrow.congr (g := fun j => .int .u8 (f j)) (fun j hj => by simp [hj])
      clear hrow
      go_wp2
      go_ret
      exact ⟨rfl, R1, hb⟩


theorem sep_of {c : Int} (h : c = 32 ∨ c = 9 ∨ c = 13 ∨ c = 10 ∨ c = 44) : sepB c = true := by
  rcases h with h | h | h | h | h <;> subst h <;> rfl
theorem sep_not {c : Int} (h : sepB c = false) : c ≠ 32 ∧ c ≠ 9 ∧ c ≠ 13 ∧ c ≠ 10 ∧ c ≠ 44 := by
  simp [sepB] at h
  omega
theorem sep_or {c : Int} (h : sepB c = true) : c = 32 ∨ c = 9 ∨ c = 13 ∨ c = 10 ∨ c = 44 := by
  simp [sepB] at h
  omega

theorem ret_int {k : IntKind} {a b : Int} (h : a = b) : Ending.returned (.int k a) = .returned (.int k b) := by rw [h]

theorem idx_at (h k m : Nat) (ys : List Int) (w : World) (j : Int) (hl : ys.length = m) (hj : Lib.indexByte (Lib.bytesOf ys) 10 = j) (hc : Hid (∀ i, i < m → w.cell? ⟨h, k + i, none⟩ = some (.int .u8 (ys.getD i 0)))) :
    Calls Try.prog 39 #[.slice (some ⟨h, k, none⟩) m m, .int .u8 10] w fun e w' => e = .returned (.int .i64 j) ∧ w' = w := by
  subst hj
  exact Try.bytes_IndexByte h k m m ys 10 w hl hc

set_option maxHeartbeats 800000 in
theorem skipM_any (t h n : Nat) (xs : List Int) (off : Nat) (hoff : off ≤ 9223372036854775807) (w : World) (hn : xs.length = n) (hn2 : n ≤ 1048576) (hB : AllB xs)
    (ht : w.cell? ⟨t, 1, none⟩ = some (.slice (some ⟨h, 0, none⟩) n n)) (hcell : ∀ i, i < n → w.cell? ⟨h, i, none⟩ = some (.int .u8 (xs.getD i 0))) :
    Calls Try.prog 34 #[.pointer (some ⟨t, 0, none⟩), .int .i64 off] w fun e w' => e = .returned (.int .i64 (skip xs off)) ∧ w' = w := by
  have HC : Hid (∀ i, i < n → w.cell? ⟨h, i, none⟩ = some (.int .u8 (xs.getD i 0))) := hcell
  clear hcell
  go_enter Try.func34, Try.ntmps34
  go_wp2
  go_loop [1] (fun i => ∃ k : Nat, k ≤ 9223372036854775807 ∧ i = .int .i64 k ∧ skip xs k = skip xs off) (fun i => n - (intOf i).toNat)
  case atStart => exact ⟨off, hoff, rfl, rfl⟩
  case round =>
    obtain ⟨k, hk, rfl, hs⟩ := hrel
    have HS : Hid (skip xs k = skip xs off) := hs
    clear hs
    by_cases hlt : k < n
    · have hc := HC.out k hlt
      obtain ⟨v, hv⟩ : ∃ v, xs.getD k 0 = v := ⟨_, rfl⟩
      rw [hv] at hc
      by_cases hsp : sepB v = true
      · have hd := sep_or hsp
        have R : skip xs (k + 1) = skip xs off := (skip_sep xs k (by omega) (by rw [hv]; exact hsp)).trans HS.out
        have HR : Hid (skip xs (k + 1) = skip xs off) := R
        clear R hv hsp
        rcases hd with hd | hd | hd | hd | hd
        all_goals
          subst hd
          go_wp2
          go_round
          case rel => exact ⟨k + 1, by omega, by go_num, HR.out⟩
          case measure => simp [intOf]; omega
      · have hd := sep_not (by simpa using hsp)
        clear hsp
        obtain ⟨d1, d2, d3, d4, d5⟩ := hd
        by_cases hh : v = 35
        · subst hh
          have hcc : ∀ i, i < n - k → w.cell? ⟨h, k + i, none⟩ = some (.int .u8 ((xs.drop k).getD i 0)) := fun i hi => by
            rw [HC.out (k + i) (by omega)]
            simp [List.getElem?_drop]
          have HCC : Hid (∀ i, i < n - k → w.cell? ⟨h, k + i, none⟩ = some (.int .u8 ((xs.drop k).getD i 0))) := hcc
          have HV : Hid (xs.getD k 0 = 35) := hv
          clear hcc hv
          by_cases hi : Lib.indexByte (Lib.bytesOf (xs.drop k)) 10 < 0
          · have R : skip xs off = n := HS.out.symm.trans ((skip_hash_none xs hB k (by omega) HV.out hi).trans hn)
            have HR : Hid (skip xs off = n) := R
            have hge := Lib.indexByte_ge (Lib.bytesOf (xs.drop k)) 10
            have hj : Lib.indexByte (Lib.bytesOf (xs.drop k)) 10 = -1 := by omega
            have HI := fun w => idx_at h k (n - k) (xs.drop k) w (-1) (by simp; omega) hj
            clear hi hge hj R
            go_wp2_with (go_at_call 39; refine (HI _ HCC).mono ?_; rintro e w' ⟨rfl, rfl⟩)
            go_ret
            exact ⟨ret_int (by rw [HR.out]), rfl⟩
          · obtain ⟨j, hj, hj0, hj1, R0⟩ := skip_hash_some xs hB k (by omega) HV.out hi
            have HR : Hid (skip xs (k + j) = skip xs off) := R0.trans HS.out
            have HI := fun w => idx_at h k (n - k) (xs.drop k) w j (by simp; omega) hj
            clear hi hj R0
            go_wp2_with (go_at_call 39; refine (HI _ HCC).mono ?_; rintro e w' ⟨rfl, rfl⟩)
            go_round
            case rel => exact ⟨k + j, by omega, by go_num, HR.out⟩
            case measure => simp [intOf]; omega
        · have R : skip xs off = k := HS.out.symm.trans (skip_stop xs k (by omega) (by rw [hv]; simp [sepB, d1, d2, d3, d4, d5]) (by rw [hv]; exact hh))
          have HR : Hid (skip xs off = k) := R
          clear R hv
          go_wp2
          go_ret
          exact ⟨ret_int (by rw [HR.out]), rfl⟩
    · have R : skip xs off = k := HS.out.symm.trans (skip_end xs k (by omega))
      have HR : Hid (skip xs off = k) := R
      clear R
      go_wp2
      go_ret
      exact ⟨ret_int (by rw [HR.out]), rfl⟩

set_option maxHeartbeats 400000 in
theorem skipM_nil (t : Nat) (off : Nat) (w : World) (ht : w.cell? ⟨t, 1, none⟩ = some (.slice none 0 0)) :
    Calls Try.prog 34 #[.pointer (some ⟨t, 0, none⟩), .int .i64 off] w fun e w' => e = .returned (.int .i64 off) ∧ w' = w := by
  go_enter Try.func34, Try.ntmps34
  go_wp2
  go_loop [1] (fun i => i = .int .i64 off) (fun _ => 0)
  case atStart => exact rfl
  case round =>
    subst hrel
    have hlt : ¬ (off : Int) < 0 := by omega
    go_wp2
    go_ret
    exact ⟨rfl, rfl⟩

set_option maxHeartbeats 400000 in
theorem zz_nil (off : Nat) (w : World) :
    Calls Try.prog 19 #[.slice none 0 0, .int .i64 off] w fun e w' => e = .returned (.int .i64 off) ∧ Below w.heap.size w w' := by
  go_enter Try.func19, Try.ntmps19
  go_wp2_with (go_at_call 34; refine (skipM_nil _ _ _ (by simp)).mono ?_; rintro e w' ⟨rfl, rfl⟩)
  go_ret
  exact ⟨rfl, (Below.refl _ _).alloc (Nat.le_refl _) _⟩

set_option maxHeartbeats 400000 in
theorem zz_any (h n : Nat) (xs : List Int) (off : Nat) (w : World) (hoff : off ≤ 9223372036854775807) (hn : xs.length = n) (hn2 : n ≤ 1048576) (hB : AllB xs) (hrow : w.rowIs h 5 n (fun i => .int .u8 (xs.getD i 0))) :
    Calls Try.prog 19 #[.slice (some ⟨h, 0, none⟩) n n, .int .i64 off] w fun e w' => e = .returned (.int .i64 (skip xs off)) ∧ Below w.heap.size w w' := by
  have hc := fun o : Obj => fun i hi => (hrow.alloc o).cell (i := i) hi
  clear hrow
  go_enter Try.func19, Try.ntmps19
  go_wp2_with (go_at_call 34; refine (skipM_any _ h n xs off hoff _ hn hn2 hB (by simp) (hc _)).mono ?_; rintro e w' ⟨rfl, rfl⟩)
  go_ret
  exact ⟨rfl, (Below.refl _ _).alloc (Nat.le_refl _) _⟩

/-- A slice of bytes of the call's own: nil, or a whole row. -/
def Src (w : World) (a : Option Addr) (n : Nat) (xs : List Int) : Prop :=
  (a = none ∧ n = 0) ∨ ∃ h, a = some ⟨h, 0, none⟩ ∧ w.rowIs h 5 n (fun i => .int .u8 (xs.getD i 0))

theorem Src.below {w w' : World} {a : Option Addr} {n : Nat} {xs : List Int} (h : Src w a n xs) (hb : Below w.heap.size w w') : Src w' a n xs := by
  rcases h with h | ⟨b, e, hr⟩
  · exact .inl h
  · exact .inr ⟨b, e, hr.of_block (hb.block b hr.lt)⟩

theorem Src.alloc {w : World} {a : Option Addr} {n : Nat} {xs : List Int} (h : Src w a n xs) (o : Obj) : Src (w.alloc o) a n xs :=
  h.below ((Below.refl _ _).alloc (Nat.le_refl _) _)

theorem clone_u (a : Option Addr) (n c : Nat) (zs : List Int) (w : World) (hn : n ≤ 1048576)
    (h : (a = none ∧ n = 0 ∧ c = 0) ∨ ∃ x, a = some x ∧ ∀ i, i < n → w.cell? (x.add i) = some (.int .u8 (zs.getD i 0))) :
    Calls Try.prog 18 #[.slice a n c] w fun e w' => ∃ a', e = .returned (.slice a' n n) ∧ Src w' a' n zs ∧ Below w.heap.size w w' := by
  rcases h with ⟨rfl, rfl, rfl⟩ | ⟨x, rfl, hc⟩
  · refine (clone_nil w).mono ?_
    rintro e w' ⟨rfl, rfl⟩
    exact ⟨none, rfl, .inl ⟨rfl, rfl⟩, Below.refl _ _⟩
  · refine (clone_some x n c (fun i => zs.getD i 0) w hn hc).mono ?_
    rintro e w' ⟨rfl, hr, hb⟩
    exact ⟨_, rfl, .inr ⟨_, rfl, hr⟩, hb⟩

theorem zz_u (a : Option Addr) (n : Nat) (xs : List Int) (off : Nat) (w : World) (hoff : off ≤ 9223372036854775807) (hn : xs.length = n) (hn2 : n ≤ 1048576) (hB : AllB xs) (hs : Src w a n xs) :
    Calls Try.prog 19 #[.slice a n n, .int .i64 off] w fun e w' => e = .returned (.int .i64 (skip xs off)) ∧ Below w.heap.size w w' := by
  rcases hs with ⟨rfl, rfl⟩ | ⟨h, rfl, hr⟩
  · rw [skip_end xs off (by omega)]
    exact zz_nil off w
  · exact zz_any h n xs off w hoff hn hn2 hB hr
end Go.Proofs.Qxb6600528a.Sk
