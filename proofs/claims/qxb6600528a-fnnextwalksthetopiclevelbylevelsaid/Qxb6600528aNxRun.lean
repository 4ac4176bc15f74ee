import Derived.Test.Qxb6600528aNxNext
import Derived.Deep.DeepCutAuto
namespace Go.Proofs.Qxb6600528a.Nx
open Go.RowKit

theorem Two.later {N : Nat} {w0 : World} {pl : Int} {t : Nat} {off : Int} {x0 x1 x2 : Value} {w w' : World} (h : Two N w0 pl t off x0 x1 x2 w) (hb : Below w.heap.size w w') : Two N w0 pl t off x0 x1 x2 w' := by
  have l1 := World.block_lt_of_cell? _ _ h.d0
  have k : ∀ {a : Addr} {v : Value}, w.cell? a = some v → w'.cell? a = some v := fun hc => kept_cell hb (Nat.le_refl _) hc
  exact ⟨k h.e0, k h.e1, k h.e2, k h.d0, k h.d1, k h.d2, (hb.frozen (p := ⟨N + 1, 0, none⟩) l1).trans h.f0, (hb.frozen (p := ⟨N + 1, 1, none⟩) l1).trans h.f1, (hb.frozen (p := ⟨N + 1, 2, none⟩) l1).trans h.f2,
    h.below.trans (hb.mono (Nat.le_of_lt (by have : N + 1 < w.heap.size := l1; omega)))⟩

set_option maxHeartbeats 1600000 in
theorem next_run (pl : Int) (off t st m : Nat) (text : ByteArray) (lit : Bool) (s e : List Int) (w : World) (j : Int)
    (ht : w.cell? ⟨t, 0, none⟩ = some (.string text)) (hl : w.cell? ⟨t, 1, none⟩ = some (.bool lit)) (hH : Holes w t s e m) (hm : m ≤ 1048576)
    (ho : off ≤ text.size) (hsz : text.size ≤ 1048576) (h1 : off ≤ st) (h2 : st ≤ text.size) (hj : Lib.indexByte (text.data.toList.drop off) 47 = j) (hk : j = -1 ∧ st = text.size ∨ ∃ i : Nat, j = i ∧ st = off + i)
    (L : ByteArray) (W K : Bool) (D : Nat)
    (hres : lit = true ∧ L = text.extract off st ∧ W = false ∧ D = st + 1 ∧ K = true ∨
      lit = false ∧ (text.extract off st).toList = [35] ∧ L = ByteArray.empty ∧ W = false ∧ D = off ∧ K = false ∨
      lit = false ∧ (text.extract off st).toList ≠ [35] ∧ L = text.extract off st ∧ W = ((text.extract off st).toList == [43] || within s e m off st) ∧ D = st + 1 ∧ K = true) :
    Calls Try.prog 35 #[.agg #[.int .i64 pl, .pointer (some ⟨t, 0, none⟩), .int .i64 off]] w fun e w' =>
      e = .returned (.tuple #[.string L, .bool W, .agg #[.int .i64 pl, .pointer (some ⟨t, 0, none⟩), .int .i64 D], .bool K]) ∧ Below w.heap.size w w' := by
  have hlt := World.block_lt_of_cell? _ _ ht
  have HH : Hid (Holes w t s e m) := hH
  have HR : Hid _ := hres
  have HK : Hid _ := hk
  have HI : Hid (∀ w, _) := fun w => idx_of text off j hj w
  clear hH hres hk hj
  go_enter Try.func35, Try.ntmps35
  go_upto_region 1 with fail
  go_cut [22] (fun c wc => c = .bool false ∧ Two w.heap.size w pl t off (.int .i64 0) (.pointer none) (.int .i64 0) wc)
  case first =>
    go_quiet (fail)
    go_wp2
    go_meet
    case rel => exact ⟨by rw [decide_eq_false (by omega)], Two.born w pl t off _⟩
  case rest =>
    obtain ⟨rfl, hT⟩ := hcut
    have HT : Hid (Two w.heap.size w pl t off (.int .i64 0) (.pointer none) (.int .i64 0) wc) := hT
    have ht1 := kept_cell hT.below (Nat.le_refl _) ht
    have hl1 := kept_cell hT.below (Nat.le_refl _) hl
    obtain ⟨e0, e1, e2, d0, d1, d2, f0, f1, f2, _⟩ := hT
    go_upto_if 37 with (go_at_call 40; refine (HI.out _).mono ?_; rintro e w' ⟨rfl, rfl⟩)
    go_cut [7] (fun v wc => v = .int .i64 st ∧ Two w.heap.size w pl t off (.int .i64 0) (.pointer none) (.int .i64 0) wc)
    case first =>
      rcases HK.out with ⟨rfl, hk⟩ | ⟨i, rfl, hk⟩
      · have HK' : Hid (st = text.size) := hk
        clear hk HK
        go_wp2
        go_meet
        case rel => exact ⟨by rw [HK'.out], HT.out⟩
      · have HK' : Hid (st = off + i) := hk
        have hb : off + i ≤ 1048576 := by omega
        clear hk HK
        go_wp2
        go_meet
        case rel => exact ⟨by rw [HK'.out]; go_num, HT.out⟩
    case rest =>
      clear HT ht1 hl1 e0 e1 e2 d0 d1 d2 f0 f1 f2 HK HI
      obtain ⟨rfl, hT⟩ := hcut
      have HT : Hid (Two w.heap.size w pl t off (.int .i64 0) (.pointer none) (.int .i64 0) wc) := hT
      have ht1 := kept_cell hT.below (Nat.le_refl _) ht
      have hl1 := kept_cell hT.below (Nat.le_refl _) hl
      obtain ⟨e0, e1, e2, d0, d1, d2, f0, f1, f2, _⟩ := hT
      go_upto_region 9 with fail
      go_cut [2] (fun v wc => v = .string (text.extract off st) ∧ Two w.heap.size w pl t off (.int .i64 pl) (.pointer (some ⟨t, 0, none⟩)) (.int .i64 (st + 1 : Nat)) wc)
      case first =>
        have HS : Hid (∀ y0 y1 y2, _) := fun y0 y1 y2 => HT.out.store y0 y1 y2
        go_wp2
        go_meet
        case rel => exact ⟨rfl, HS.out _ _ _⟩
      case rest =>
        clear HT ht1 hl1 e0 e1 e2 d0 d1 d2 f0 f1 f2
        obtain ⟨rfl, hT⟩ := hcut
        have HT : Hid (Two w.heap.size w pl t off (.int .i64 pl) (.pointer (some ⟨t, 0, none⟩)) (.int .i64 (st + 1 : Nat)) wc) := hT
        have hl1 := kept_cell hT.below (Nat.le_refl _) hl
        obtain ⟨e0, e1, e2, d0, d1, d2, f0, f1, f2, _⟩ := hT
        rcases HR.out with ⟨rfl, rfl, rfl, rfl, rfl⟩ | ⟨rfl, hv, rfl, rfl, rfl, rfl⟩ | ⟨rfl, hv, rfl, rfl, rfl, rfl⟩
        · clear HR HH
          have HS := fun y0 y1 y2 => (HT.out.drew).store y0 y1 y2
          have HS' : Hid (∀ y0 y1 y2, _) := HS
          clear HS
          go_wp2
          go_region
          all_goals
            go_wp2
            refine bodyPost_ret (v := .tuple #[.string (text.extract off st), .bool false, .agg #[.int .i64 pl, .pointer (some ⟨t, 0, none⟩), .int .i64 (st + 1 : Nat)], .bool true]) ?_ rfl ⟨rfl, ?_⟩
            · simp [results, Try.results35, go_sem, d0, d1, d2]
            · exact (HS'.out _ _ _).below
        · clear HR HH
          have hv' : ((text.extract D st).toList == [35]) = true := by rw [hv]; rfl
          clear hv
          have HS := fun y0 y1 y2 => (HT.out.drew).store y0 y1 y2
          have HS' : Hid (∀ y0 y1 y2, _) := HS
          clear HS
          go_wp2
          go_region
          all_goals
            go_wp2
            refine bodyPost_ret (v := .tuple #[.string ByteArray.empty, .bool false, .agg #[.int .i64 pl, .pointer (some ⟨t, 0, none⟩), .int .i64 _], .bool false]) ?_ rfl ⟨rfl, ?_⟩
            · simp [results, Try.results35, go_sem, d0, d1, d2]
              rfl
            · exact (HS'.out _ _ _).below
        · clear HR
          have hv' : ((text.extract off st).toList == [35]) = false := by simpa using hv
          clear hv
          by_cases hp : ((text.extract off st).toList == [43]) = true
          · have HS := fun y0 y1 y2 => (HT.out.drew).store y0 y1 y2
            have HS' : Hid (∀ y0 y1 y2, _) := HS
            clear HS
            go_wp2
            go_region
            all_goals
              go_wp2
              refine bodyPost_ret (v := .tuple #[.string (text.extract off st), .bool ((text.extract off st).toList == [43] || within s e m off st), .agg #[.int .i64 pl, .pointer (some ⟨t, 0, none⟩), .int .i64 (st + 1 : Nat)], .bool true]) ?_ rfl ⟨rfl, ?_⟩
              · simp [results, Try.results35, go_sem, d0, d1, d2, hp]
              · exact (HS'.out _ _ _).below
          · have hp' : ((text.extract off st).toList == [43]) = false := by simpa using hp
            clear hp
            have HHc : Hid (Holes wc.drew t s e m) := HH.out.below HT.out.drew.below (Nat.le_refl _)
            have HL : Hid (∀ w', Below wc.drew.heap.size wc.drew w' → Two w.heap.size w pl t off (.int .i64 pl) (.pointer (some ⟨t, 0, none⟩)) (.int .i64 (st + 1 : Nat)) w') := fun w' hb => HT.out.drew.later hb
            clear HH HT
            go_wp2
            go_region_with (go_at_call 41; go_must (refine (holeIn_u t m s e off st wc.drew hm HHc.out).mono ?_); rintro e' w7 ⟨rfl, hb7⟩; have T7 := HL.out w7 hb7; have H7 : Hid _ := T7; clear hb7; obtain ⟨e0', e1', e2', d0', d1', d2', f0', f1', f2', _⟩ := T7)
            all_goals
              go_wp2
              refine bodyPost_ret (v := .tuple #[.string (text.extract off st), .bool ((text.extract off st).toList == [43] || within s e m off st), .agg #[.int .i64 pl, .pointer (some ⟨t, 0, none⟩), .int .i64 (st + 1 : Nat)], .bool true]) ?_ rfl ⟨rfl, ?_⟩
              · simp [results, Try.results35, go_sem, d0', d1', d2', hp']
              · exact (H7.out.store _ _ _).below
end Go.Proofs.Qxb6600528a.Nx
