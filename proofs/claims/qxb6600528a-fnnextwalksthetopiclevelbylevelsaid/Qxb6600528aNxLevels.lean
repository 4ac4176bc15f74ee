import Derived.Test.Qxb6600528aNxLevPlain
import Derived.Test.Qxb6600528aNxFacts
import Derived.ArgAppend
namespace Go.Proofs.Qxb6600528a.Nx
open Go.RowKit
set_option linter.unusedVariables false

theorem own_weaken {w : World} {base base' : Nat} {e : TypeId} {size : Nat} {v : Value} {n : Nat} {xs : List Value} (h : w.ownsRow base e size v n xs) (hb : base' ≤ base) : w.ownsRow base' e size v n xs := by
  refine ⟨h.1, ?_⟩
  rcases h.2 with h | ⟨g, cap, cur, a, b, c⟩
  · exact .inl h
  · exact .inr ⟨g, cap, cur, a, Nat.le_trans hb b, c⟩

/-- append onto a slice of the call's own: the row is the old one, or new. -/
theorem run_append_two {P : Program} (w : World) (base : Nat) (t ty e : TypeId) (i : TypeInfo) (z : Value) (size bytes : Nat) (ht : P.underlying t = some (.slice e)) (hi : P.info? e = some i) (hz : i.zero = some z)
    (hsize : i.size = size) (hby : i.bytes = bytes) (hzs : z.cells.size = size) (hsz : 0 < size)
    (v : Value) (n : Nat) (xs : List Value) (hown : w.ownsRow base e size v n xs)
    (a : Addr) (m c : Nat) (news : List Value) (hl : news.length = m * size) (hnews : ∀ j u, news[j]? = some u → w.cell? (a.add j) = some u) (h1 : ∀ u ∈ news, u.oneCell' = true)
    (h63 : n + m ≤ maxLen) (hbytes : (n + m) * bytes ≤ 140737488355328) (hbase : base ≤ w.heap.size) :
    ∃ v' w', (Builtin.append_ #[t, t] ty #[v, .slice (some a) m c]).run P w = .ok v' w' ∧ w'.ownsRow base e size v' (n + m) (xs ++ news) ∧ w.grownBy w' v.ownBlock ∧
      (∀ g, v'.ownBlock = some g → v.ownBlock = some g ∨ w.heap.size ≤ g) := by
  rcases hown.2 with ⟨rfl, rfl⟩ | ⟨g, cap, cur, rfl, hg, hb, hn, hc, hs, htk⟩
  · have hx : xs = [] := List.eq_nil_of_length_eq_zero (by simpa using hown.1)
    subst hx
    obtain ⟨v', w', hrun, r1, r2, _⟩ := run_append_own (P := P) w w.heap.size t ty e i z size bytes ht hi hz hsize hby hzs hsz (.slice none 0 0) 0 [] (World.ownsRow_nil w _ e size) a m c news hl hnews h1 h63 hbytes (Nat.le_refl _)
    exact ⟨v', w', hrun, own_weaken r1 hbase, r2, fun g hg => .inr (r1.lt g hg).1⟩
  · by_cases hroom : n + m ≤ cap
    · obtain ⟨w', hrun, r1, r2⟩ := run_append_fits (P := P) w base t ty e i size ht hi hsize g n cap xs hown a m c news hl hnews h1 hroom
      exact ⟨_, w', hrun, r1, r2, fun g' hg' => .inl hg'⟩
    · obtain ⟨v', w', hrun, r1, r2⟩ := run_append_arg_grows (P := P) w t ty e i z size bytes ht hi hz hsize hby hzs hsz ⟨g, 0, none⟩ n cap xs hown.1 (hown.cells rfl) a m c news hl hnews (by omega) h63 hbytes
      exact ⟨v', w', hrun, own_weaken r1 hbase, ⟨r2.os, r2.tape, r2.output, r2.size, fun k hk _ => r2.block k hk (by simp)⟩, fun g hg => .inr (r1.lt g hg).1⟩

theorem wpList_append_two {P : Program} (w : World) {ops : Array Oper} {rest : List Oper} {o : Oper} {a : Act} {Q : Exit → Act → World → Prop} (hgd : o.guard = none) (s x : Operand) (t : TypeId)
    (hop : o.op = .call { callee := .builtin .append, args := #[s, x], argTypes := #[t, t] })
    (base : Nat) (e : TypeId) (i : TypeInfo) (z : Value) (size bytes : Nat) (ht : P.underlying t = some (.slice e)) (hi : P.info? e = some i) (hz : i.zero = some z)
    (hsize : i.size = size) (hby : i.bytes = bytes) (hzs : z.cells.size = size) (hsz : 0 < size)
    (v : Value) (n : Nat) (xs : List Value) (hs : a.eval s = v) (hown : w.ownsRow base e size v n xs)
    (ad : Addr) (m c : Nat) (news : List Value) (hx : a.eval x = .slice (some ad) m c) (hl : news.length = m * size) (hnews : ∀ j u, news[j]? = some u → w.cell? (ad.add j) = some u) (h1 : ∀ u ∈ news, u.oneCell' = true)
    (h63 : n + m ≤ maxLen) (hbytes : (n + m) * bytes ≤ 140737488355328) (hbase : base ≤ w.heap.size)
    (hK : ∀ v' w', w'.ownsRow base e size v' (n + m) (xs ++ news) → w.grownBy w' v.ownBlock → (∀ g, v'.ownBlock = some g → v.ownBlock = some g ∨ w.heap.size ≤ g) → wpList P ops Q rest (a.put o.dst v') w') : wpList P ops Q (o :: rest) a w := by
  refine wpList_plain hgd fun K hK' => ?_
  obtain ⟨v', w', hrun, r1, r2, r3⟩ := run_append_two (P := P) w base t o.type e i z size bytes ht hi hz hsize hby hzs hsz v n xs hown ad m c news hl hnews h1 h63 hbytes hbase
  unfold Oper.wp
  simp [execOp, hop, resolve, invoke, builtin, hs, hx, hrun, Result.andThen]
  exact hK' _ _ (hK v' w' r1 r2 r3)

/-- Two slices of the call's own, over two rows. -/
structure Pair (B : Nat) (w0 : World) (v2 v3 : Value) (S E : List Nat) (w : World) : Prop where
  o2 : w.ownsRow B 3 1 v2 S.length (S.map fun n : Nat => .int .i64 (n : Int))
  o3 : w.ownsRow B 3 1 v3 E.length (E.map fun n : Nat => .int .i64 (n : Int))
  ne : ∀ g, v2.ownBlock = some g → v3.ownBlock ≠ some g
  below : Below B w0 w
  hB : B ≤ w.heap.size

theorem Pair.alloc {B : Nat} {w0 : World} {v2 v3 : Value} {S E : List Nat} {w : World} (h : Pair B w0 v2 v3 S E w) (o : Obj) : Pair B w0 v2 v3 S E (w.alloc o) :=
  ⟨h.o2.alloc o, h.o3.alloc o, h.ne, h.below.alloc h.hB o, by have := h.hB; simp; omega⟩

theorem Pair.push2 {B : Nat} {w0 : World} {v2 v3 : Value} {S E : List Nat} {w : World} (h : Pair B w0 v2 v3 S E w) {v' : Value} {w' : World} {x : Nat}
    (hown : w'.ownsRow B 3 1 v' (S.length + 1) (S.map (fun n : Nat => Value.int .i64 (n : Int)) ++ [.int .i64 (x : Int)])) (hg : w.grownBy w' v2.ownBlock) (hr : ∀ g, v'.ownBlock = some g → v2.ownBlock = some g ∨ w.heap.size ≤ g) :
    Pair B w0 v' v3 (S ++ [x]) E w' := by
  have hne3 : v3.ownBlock = none ∨ v3.ownBlock ≠ v2.ownBlock := by
    cases h3 : v3.ownBlock with
    | none => exact .inl rfl
    | some g =>
      right
      intro e
      exact h.ne g e.symm h3
  refine ⟨by simpa using hown, h.o3.kept hg hne3, ?_, h.below.grown hg h.hB (fun k hk => (h.o2.lt k hk).1), Nat.le_trans h.hB hg.size⟩
  intro g hg'
  rcases hr g hg' with e | e
  · exact h.ne g e
  · intro h3
    have := (h.o3.lt g h3).2
    omega

theorem Pair.push3 {B : Nat} {w0 : World} {v2 v3 : Value} {S E : List Nat} {w : World} (h : Pair B w0 v2 v3 S E w) {v' : Value} {w' : World} {x : Nat}
    (hown : w'.ownsRow B 3 1 v' (E.length + 1) (E.map (fun n : Nat => Value.int .i64 (n : Int)) ++ [.int .i64 (x : Int)])) (hg : w.grownBy w' v3.ownBlock) (hr : ∀ g, v'.ownBlock = some g → v3.ownBlock = some g ∨ w.heap.size ≤ g) :
    Pair B w0 v2 v' S (E ++ [x]) w' := by
  have hne2 : v2.ownBlock = none ∨ v2.ownBlock ≠ v3.ownBlock := by
    cases h2 : v2.ownBlock with
    | none => exact .inl rfl
    | some g =>
      right
      intro e
      exact h.ne g h2 e.symm
  refine ⟨h.o2.kept hg hne2, by simpa using hown, ?_, h.below.grown hg h.hB (fun k hk => (h.o3.lt k hk).1), Nat.le_trans h.hB hg.size⟩
  intro g h2 h3
  rcases hr g h3 with e | e
  · exact h.ne g h2 e
  · have := (h.o2.lt g h2).2
    omega

theorem one_new (w : World) (x : Value) (t : TypeId) : ∀ j u, [x][j]? = some u → (w.alloc (.cells #[x] t)).cell? ((⟨w.heap.size, 0, none⟩ : Addr).add j) = some u := by
  intro j u hj
  match j, hj with
  | 0, hj => simp at hj; subst hj; simp [Addr.add, go_sem]

theorem one_cell (x : Int) : ∀ u ∈ [Value.int .i64 x], u.oneCell' = true := by
  intro u hu; simp at hu; subst hu; rfl

set_option maxHeartbeats 1600000 in
theorem levels_any (text : ByteArray) (w : World) (hsz : text.size ≤ 4096) :
    Calls Try.prog 28 #[.string text] w fun e w' => ∃ v2 v3 S E, e = .returned (.tuple #[v2, v3]) ∧ Full text.data.toList S E ∧ Pair w.heap.size w v2 v3 S E w' := by
  obtain ⟨i0, hi, hz0, hz1, hz2⟩ := info_parts info3
  go_enter Try.func28, Try.ntmps28
  go_wp2
  go_loopw [2, 3, 4, 5] (fun v2 v3 st i wr => ∃ (k start : Nat) (S E : List Nat), k ≤ text.size ∧ i = .int .i64 k ∧ st = .int .i64 start ∧ Part text.data.toList k S E start ∧ Pair w.heap.size w v2 v3 S E wr) (fun _ _ _ i _ => text.size - (intOf i).toNat)
  case atStart =>
    exact ⟨0, 0, [], [], Nat.zero_le _, rfl, rfl, Part.zero _, World.ownsRow_nil _ _ _ _, World.ownsRow_nil _ _ _ _, fun g h => by simp [Value.ownBlock] at h, Below.refl _ _, Nat.le_refl _⟩
  case round =>
    obtain ⟨k, start, S, E, hk, rfl, rfl, hP, hQ⟩ := hrel
    have hlS : S.length ≤ 4096 := by have := hP.nk; have := hP.len; omega
    have hlE : E.length ≤ 4096 := by have := hP.nk; omega
    have HP : Hid (Part text.data.toList k S E start) := hP
    have HQ : Hid (Pair w.heap.size w u2 u3 S E wr) := hQ
    clear hP hQ
    by_cases hlt : k < text.size
    · by_cases hc : text[k] = 47
      · have HP2 : Hid (Part text.data.toList (k + 1) (S ++ [start]) (E ++ [k]) (k + 1)) := HP.out.slash (by rw [len_list]; exact hlt) (by rw [at_list text k hlt, hc])
        have hc' : (((text[k].toNat : Nat) : Int) == 47) = true := by rw [hc]; rfl
        clear hc HP
        go_wp2_with (first | (at_builtin; refine wpList_append_two _ rfl (.tmp 16) (.tmp 18) 31 rfl w.heap.size 3 i0 (.int .i64 0) 1 8 Try.underlying31 hi hz0 hz1 hz2 rfl (by decide) _ _ _ rfl (HQ.out.alloc _).o2 ⟨wr.heap.size, 0, none⟩ 1 1 [.int .i64 start] rfl rfl (one_new _ _ _) (one_cell _) (by unfold maxLen; omega) (by omega) (HQ.out.alloc _).hB ?_; intro v2' w5 own5 gr5 hr5; have HQ5 : Hid (Pair w.heap.size w v2' u3 (S ++ [start]) E w5) := (HQ.out.alloc _).push2 own5 gr5 hr5; clear own5 gr5 hr5) | (at_builtin; refine wpList_append_two _ rfl (.tmp 20) (.tmp 22) 31 rfl w.heap.size 3 i0 (.int .i64 0) 1 8 Try.underlying31 hi hz0 hz1 hz2 rfl (by decide) _ _ _ rfl (HQ5.out.alloc _).o3 ⟨_, 0, none⟩ 1 1 [.int .i64 k] rfl rfl (one_new _ _ _) (one_cell _) (by unfold maxLen; omega) (by omega) (HQ5.out.alloc _).hB ?_; intro v3' w6 own6 gr6 hr6; have HQ6 : Hid (Pair w.heap.size w v2' v3' (S ++ [start]) (E ++ [k]) w6) := (HQ5.out.alloc _).push3 own6 gr6 hr6; clear own6 gr6 hr6))
        go_roundw
        case rel => exact ⟨k + 1, k + 1, S ++ [start], E ++ [k], by omega, by go_num, by go_num, HP2.out, HQ6.out⟩
        case measure => simp [intOf]; omega
      · have HP2 : Hid (Part text.data.toList (k + 1) S E start) := HP.out.next (by rw [at_list text k hlt]; simpa using hc)
        have hc' : (((text[k].toNat : Nat) : Int) == 47) = false := by
          rw [beq_eq_false_iff_ne]
          intro h
          apply hc
          apply UInt8.toNat_inj.1
          have h4 : (47 : UInt8).toNat = 47 := rfl
          omega
        clear hc HP
        go_wp2_with fail
        go_roundw
        case rel => exact ⟨k + 1, start, S, E, by omega, by go_num, rfl, HP2.out, HQ.out⟩
        case measure => simp [intOf]; omega
    · have hk2 : k = text.size := by omega
      subst hk2
      have HF : Hid (Full text.data.toList (S ++ [start]) (E ++ [text.size])) := by
        have h := HP.out
        rw [← len_list text] at h
        have h2 := h.full
        rw [len_list text] at h2
        exact h2
      clear HP
      go_wp2_with (first | (at_builtin; refine wpList_append_two _ rfl (.tmp 26) (.tmp 28) 31 rfl w.heap.size 3 i0 (.int .i64 0) 1 8 Try.underlying31 hi hz0 hz1 hz2 rfl (by decide) _ _ _ rfl (HQ.out.alloc _).o2 ⟨wr.heap.size, 0, none⟩ 1 1 [.int .i64 start] rfl rfl (one_new _ _ _) (one_cell _) (by unfold maxLen; omega) (by omega) (HQ.out.alloc _).hB ?_; intro v2' w5 own5 gr5 hr5; have HQ5 : Hid (Pair w.heap.size w v2' u3 (S ++ [start]) E w5) := (HQ.out.alloc _).push2 own5 gr5 hr5; clear own5 gr5 hr5) | (at_builtin; refine wpList_append_two _ rfl (.tmp 30) (.tmp 33) 31 rfl w.heap.size 3 i0 (.int .i64 0) 1 8 Try.underlying31 hi hz0 hz1 hz2 rfl (by decide) _ _ _ rfl (HQ5.out.alloc _).o3 ⟨_, 0, none⟩ 1 1 [.int .i64 text.size] rfl rfl (one_new _ _ _) (one_cell _) (by unfold maxLen; omega) (by omega) (HQ5.out.alloc _).hB ?_; intro v3' w6 own6 gr6 hr6; have HQ6 : Hid (Pair w.heap.size w v2' v3' (S ++ [start]) (E ++ [text.size]) w6) := (HQ5.out.alloc _).push3 own6 gr6 hr6; clear own6 gr6 hr6))
      go_ret2
      exact ⟨_, _, _, _, rfl, HF.out, HQ6.out⟩
end Go.Proofs.Qxb6600528a.Nx
