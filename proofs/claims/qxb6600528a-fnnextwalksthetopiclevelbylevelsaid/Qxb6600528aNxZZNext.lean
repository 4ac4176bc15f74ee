import Derived.Test.Qxb6600528aNxZZ
import Derived.Test.Qxb6600528aNxRun
import Derived.LaidEqlPtr
namespace Go.Proofs.Qxb6600528a.Nx
open Go.RowKit
set_option linter.unusedVariables false

/-- The slash-free run at o. -/
def lvl (text : ByteArray) (o : Nat) : ByteArray := text.extract o (stop text.data.toList o)

/-- THE WHOLE ANSWER OF next, of an entry with a topic: level, wild, down's offset, ok. -/
def NextIs (text : ByteArray) (lit : Bool) (s e : List Int) (m : Nat) (off : Int) (L : ByteArray) (W K : Bool) (D : Int) : Prop :=
  ((text.size : Int) < off ∧ L = ByteArray.empty ∧ W = false ∧ D = off ∧ K = false) ∨
  ∃ o : Nat, off = o ∧ o ≤ text.size ∧
    (lit = true ∧ L = lvl text o ∧ W = false ∧ D = (stop text.data.toList o + 1 : Nat) ∧ K = true ∨
     lit = false ∧ (lvl text o).toList = [35] ∧ L = ByteArray.empty ∧ W = false ∧ D = o ∧ K = false ∨
     lit = false ∧ (lvl text o).toList ≠ [35] ∧ L = lvl text o ∧ W = ((lvl text o).toList == [43] || within s e m o (stop text.data.toList o)) ∧ D = (stop text.data.toList o + 1 : Nat) ∧ K = true)

theorem next_u (pl off : Int) (t m : Nat) (text : ByteArray) (lit : Bool) (s e : List Int) (w : World)
    (ht : w.cell? ⟨t, 0, none⟩ = some (.string text)) (hl : w.cell? ⟨t, 1, none⟩ = some (.bool lit)) (hH : Holes w t s e m) (hm : m ≤ 1048576) (hsz : text.size ≤ 1048576)
    (L : ByteArray) (W K : Bool) (D : Int) (hN : NextIs text lit s e m off L W K D) :
    Calls Try.prog 35 #[.agg #[.int .i64 pl, .pointer (some ⟨t, 0, none⟩), .int .i64 off]] w fun e w' =>
      e = .returned (.tuple #[.string L, .bool W, .agg #[.int .i64 pl, .pointer (some ⟨t, 0, none⟩), .int .i64 D], .bool K]) ∧ Below w.heap.size w w' := by
  rcases hN with ⟨h, rfl, rfl, rfl, rfl⟩ | ⟨o, rfl, ho, h⟩
  · exact next_past pl _ t text w ht h
  · have hlen : text.data.toList.length = text.size := by simp
    have h1 := stop_ge text.data.toList o
    have h2 := stop_le text.data.toList o (by rw [hlen]; exact ho)
    have hk := stop_index text.data.toList o (by rw [hlen]; exact ho)
    rw [hlen] at h2 hk
    have hD : ∃ d : Nat, D = d := by
      rcases h with ⟨_, _, _, h, _⟩ | ⟨_, _, _, _, h, _⟩ | ⟨_, _, _, _, h, _⟩ <;> exact ⟨_, h⟩
    obtain ⟨d, rfl⟩ := hD
    refine next_run pl o t (stop text.data.toList o) m text lit s e w _ ht hl hH hm ho hsz h1 h2 rfl ?_ L W K d ?_
    · rcases hk with ⟨a, b⟩ | ⟨i, a, b⟩
      · exact .inl ⟨a, b⟩
      · exact .inr ⟨i, a, b⟩
    · rcases h with ⟨a, b, c, h, g⟩ | ⟨a, b, c, f, h, g⟩ | ⟨a, b, c, f, h, g⟩
      · exact .inl ⟨a, b, c, by omega, g⟩
      · exact .inr (.inl ⟨a, b, c, f, by omega, g⟩)
      · exact .inr (.inr ⟨a, b, c, f, by omega, g⟩)

theorem some57 : (Try.prog.info? 57).isSome = true := by kernel_rfl

theorem eql50 (a : Addr) (w : World) : (binOp .eql 50 (.pointer (some a)) (.pointer (some a))).run Try.prog w = .ok (.bool true) w := by
  obtain ⟨j, hj⟩ := Option.isSome_iff_exists.1 some57
  exact run_eql_ptr_same w a Try.underlying50 hj

set_option maxHeartbeats 1600000 in
theorem zz_next (pl : Int) (text : ByteArray) (lit : Bool) (a3 a4 : Option Addr) (n3 n4 m : Nat) (s e : List Int) (off : Int) (w : World)
    (b3 : n3 ≤ 1048576) (b4 : n4 ≤ 1048576) (hm3 : m ≤ n3) (hm4 : m ≤ n4) (hm : m = n3 ∨ m = n4) (h3 : Src w a3 n3 s) (h4 : Src w a4 n4 e) (L : ByteArray) (W K : Bool) (D : Int) (hsz : text.size ≤ 1048576) (hN : NextIs text lit s e m off L W K D) :
    Calls Try.prog 25 #[.int .i64 pl, .string text, .bool lit, .slice a3 n3 n3, .slice a4 n4 n4, .int .i64 off] w fun e w' =>
      e = .returned (.tuple #[.string L, .bool W, .int .i64 pl, .int .i64 D, .bool true, .bool K]) ∧ Below w.heap.size w w' := by
  have H3 : Hid (Src w a3 n3 s) := h3
  have H4 : Hid (Src w a4 n4 e) := h4
  have HM : Hid (n4 < n3 ∧ m = n4 ∨ ¬ n4 < n3 ∧ m = n3) := by unfold Hid; omega
  have HN : Hid (NextIs text lit s e m off L W K D) := hN
  clear h3 h4 hm hN
  have hq := eql50
  obtain ⟨i0, hi, hz0, hz1, hz2⟩ := info_parts info60
  go_enter Try.func25, Try.ntmps25
  go_upto_if 35 with fail
  go_cut [19] (fun v wc => v = .int .i64 m ∧ wc = w.alloc (.cells #[.string text, .bool lit, .slice none 0 0] 57))
  case first =>
    rcases HM.out with ⟨hl, hk⟩ | ⟨hl, hk⟩
    · have HK : Hid (m = n4) := hk
      clear hk HM
      go_wp2
      go_meet
      case rel => exact ⟨by rw [HK.out], rfl⟩
    · have HK : Hid (m = n3) := hk
      clear hk HM
      go_wp2
      go_meet
      case rel => exact ⟨by rw [HK.out], rfl⟩
  case rest =>
    obtain ⟨rfl, rfl⟩ := hcut
    go_wp2_with fail
    go_loopw [20] (fun i wr => ∃ k : Nat, ∃ v, k ≤ m ∧ i = .int .i64 k ∧ Topic w text lit s e k v wr) (fun i _ => m - (intOf i).toNat)
    case atStart =>
      refine ⟨0, .slice none 0 0, Nat.zero_le _, rfl, ?_, ?_, ?_, ?_, World.ownsRow_nil _ _ _ _, (Below.refl _ _).alloc (Nat.le_refl _) _⟩ <;> simp [go_sem]
    case round =>
      obtain ⟨k, v, hk, rfl, hT⟩ := hrel
      by_cases hlt : k < m
      · obtain ⟨x3, rfl, l3, g3⟩ := H3.out.at (k := k) (by omega)
        obtain ⟨x4, rfl, l4, g4⟩ := H4.out.at (k := k) (by omega)
        have g3 := kept_cell hT.below (Nat.le_refl _) g3
        have g4 := kept_cell hT.below (Nat.le_refl _) g4
        have HT : Hid (Topic w text lit s e k v wr) := hT
        obtain ⟨c0, c1, c2, fz, own, hb⟩ := hT
        obtain ⟨y0, hy0⟩ : ∃ y, s.getD k 0 = y := ⟨_, rfl⟩
        obtain ⟨y1, hy1⟩ : ∃ y, e.getD k 0 = y := ⟨_, rfl⟩
        rw [hy0] at g3
        rw [hy1] at g4
        have hsucc := holeCells_succ s e k
        rw [hy0, hy1] at hsucc
        have HO : Hid (wr.ownsRow (w.heap.size + 1) 60 3 v k (holeCells s e k)) := own
        have HSU : Hid (holeCells s e (k + 1) = _) := hsucc
        clear own hsucc hb hy0 hy1 H3 H4 HM
        have hk3 : k < n3 := by omega
        have hk4 : k < n4 := by omega
        have hTl : w.heap.size < wr.heap.size := World.block_lt_of_cell? _ _ c2
        have q2 : ∀ o, (wr.alloc o).cell? ⟨w.heap.size, 2, none⟩ = some v := fun o => kept_cell ((Below.refl _ _).alloc (Nat.le_refl _) _) (Nat.le_refl _) c2
        have HOA : Hid ((wr.alloc (.cells #[.int .i64 y0, .int .i64 y1, .int .i64 0] 60)).drew.ownsRow (w.heap.size + 1) 60 3 v k (holeCells s e k)) := (HO.out.alloc _).drew
        have HNW : Hid (∀ (j : Nat) u, [Value.int .i64 y0, .int .i64 y1, .int .i64 0][j]? = some u → (wr.alloc (.cells #[.int .i64 y0, .int .i64 y1, .int .i64 0] 60)).drew.cell? ((⟨wr.heap.size, 0, none⟩ : Addr).add j) = some u) := by
          intro j u hj
          match j, hj with
          | 0, hj => simp at hj; subst hj; simp [Addr.add, go_sem]
          | 1, hj => simp at hj; subst hj; simp [Addr.add, go_sem]
          | 2, hj => simp at hj; subst hj; simp [Addr.add, go_sem]
        have H1C : Hid (∀ u ∈ [Value.int .i64 y0, .int .i64 y1, .int .i64 0], u.oneCell' = true) := by
          intro u hu; simp at hu; rcases hu with rfl | rfl | rfl <;> rfl
        go_wp2_with fail
        go_region_law (refine step_append_own rfl (.tmp 47) (.tmp 57) 55 rfl (w.heap.size + 1) 60 i0 (.agg #[.int .i64 0, .int .i64 0, .int .i64 0]) 3 24 Try.underlying55 hi hz0 hz1 hz2 rfl (by decide) v k (holeCells s e k) (by simp [Act.eval]) HOA.out ⟨wr.heap.size, 0, none⟩ 1 1 [.int .i64 y0, .int .i64 y1, .int .i64 0] (by simp [Act.eval]) rfl HNW.out H1C.out (by unfold maxLen; omega) (by omega) (by simp; omega) ?_; intro v' w7 own7 gr7; obtain ⟨g, cap, rfl, q7, f7, RT⟩ := topic_step HT.out HSU.out own7 gr7; have HRT : Hid _ := RT; clear RT own7 gr7)
        all_goals
          go_wp2_with fail
          go_roundw
          case rel => exact ⟨k + 1, _, by omega, by go_num, HRT.out⟩
          case measure => simp [intOf]; omega
      · have hk2 : k = m := by omega
        subst hk2
        have A0 : Hid (∀ o, (wr.alloc o).cell? ⟨w.heap.size, 0, none⟩ = some (.string text)) := fun o => kept_cell ((Below.refl _ _).alloc (Nat.le_refl _) _) (Nat.le_refl _) hT.c0
        have A1 : Hid (∀ o, (wr.alloc o).cell? ⟨w.heap.size, 1, none⟩ = some (.bool lit)) := fun o => kept_cell ((Below.refl _ _).alloc (Nat.le_refl _) _) (Nat.le_refl _) hT.c1
        have A2 : Hid (∀ o, Holes (wr.alloc o) w.heap.size s e k) := fun o => (ownsRow_cells hT.own w.heap.size hT.c2).below ((Below.refl _ _).alloc (Nat.le_refl _) _) (Nat.le_refl _)
        have AB : Hid (∀ o w5 o5 n, Below (wr.alloc o).heap.size (wr.alloc o) w5 → Below w.heap.size w ((w5.alloc o5).drewN n)) := fun o w5 o5 n hb => by
          have h1 := hT.below.alloc hT.below.size o
          have h2 := h1.trans (hb.mono h1.size)
          exact below_drawn (h2.alloc h2.size _) _
        clear hT H3 H4 HM
        go_wp2_with fail
        refine (next_u pl off w.heap.size k text lit s e _ (A0.out _) (A1.out _) (A2.out _) (by omega) hsz L W K D HN.out).mono ?_
        rintro e' w5 ⟨rfl, hb5⟩
        have HB5 : Hid (∀ o5 n, Below w.heap.size w ((w5.alloc o5).drewN n)) := fun o5 n => AB.out _ w5 o5 n hb5
        clear hb5 A0 A1 A2 AB
        go_wp2_with fail
        go_quiet (fail)
        go_wp2
        refine bodyPost_ret (v := .tuple #[.string L, .bool W, .int .i64 pl, .int .i64 D, .bool true, .bool K]) ?_ rfl ⟨rfl, ?_⟩
        · simp [results, Try.results25, go_sem]
        · exact HB5.out _ _
end Go.Proofs.Qxb6600528a.Nx
