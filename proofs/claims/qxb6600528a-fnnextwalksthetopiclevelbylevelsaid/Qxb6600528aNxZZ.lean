import Derived.Test.Qxb6600528aNxNext
import Derived.Deep.RegionLaw
import Derived.Deep.DeepCutAuto
import Derived.Outline
namespace Go.Proofs.Qxb6600528a.Nx
open Go.RowKit

theorem step_append_own {P : Program} {ops : Array Oper} {o : Oper} {a : Act} {w : World} {K : Act → World → Prop} {Q : Exit → Act → World → Prop} {E : Prop}
    (hg : o.guard = none) (s x : Operand) (t : TypeId) (hop : o.op = Op.call { callee := Callee.builtin Builtin.append, args := #[s, x], argTypes := #[t, t] })
    (base : Nat) (e : TypeId) (i : TypeInfo) (z : Value) (size bytes : Nat) (h1 : P.underlying t = some (.slice e)) (h2 : P.info? e = some i) (h3 : i.zero = some z) (h4 : i.size = size) (h5 : i.bytes = bytes) (h6 : z.cells.size = size) (h7 : 0 < size)
    (v : Value) (n : Nat) (xs : List Value) (hs : a.eval s = v) (hown : w.ownsRow base e size v n xs)
    (ad : Addr) (m c : Nat) (news : List Value) (hx : a.eval x = .slice (some ad) m c) (hl : news.length = m * size) (hnews : ∀ j u, news[j]? = some u → w.cell? (ad.add j) = some u) (h1c : ∀ u ∈ news, u.oneCell' = true)
    (h63 : n + m ≤ maxLen) (hbytes : (n + m) * bytes ≤ 140737488355328) (hbase : base ≤ w.heap.size)
    (hK : ∀ v' w', w'.ownsRow base e size v' (n + m) (xs ++ news) → w.grownBy w' v.ownBlock → K (a.put o.dst v') w') :
    if Region.wanted o (yielded ops a.tmps) = true then Oper.wp P o a w K Q else E := by
  have hw : Region.wanted o (yielded ops a.tmps) = true := by simp [Region.wanted, hg]
  rw [if_pos hw]
  obtain ⟨v', w', hrun, r1, r2, _⟩ := run_append_own (P := P) w base t o.type e i z size bytes h1 h2 h3 h4 h5 h6 h7 v n xs hown ad m c news hl hnews h1c h63 hbytes hbase
  unfold Oper.wp
  simp [execOp, hop, resolve, invoke, builtin, hs, hx, hrun, Result.andThen]
  exact hK v' w' r1 r2

/-- The cells of the first k placeholders. -/
def holeCells (s e : List Int) (k : Nat) : List Value := (List.range k).flatMap fun i => [.int .i64 (s.getD i 0), .int .i64 (e.getD i 0), .int .i64 0]

theorem holeCells_succ (s e : List Int) (k : Nat) : holeCells s e (k + 1) = holeCells s e k ++ [.int .i64 (s.getD k 0), .int .i64 (e.getD k 0), .int .i64 0] := by
  simp [holeCells, List.range_succ]

theorem holeCells_length (s e : List Int) : ∀ k, (holeCells s e k).length = k * 3
  | 0 => rfl
  | k + 1 => by rw [holeCells_succ, List.length_append, holeCells_length s e k]; simp; omega

theorem holeCells_at (s e : List Int) : ∀ (m k : Nat), k < m → (holeCells s e m)[k * 3]? = some (.int .i64 (s.getD k 0)) ∧ (holeCells s e m)[k * 3 + 1]? = some (.int .i64 (e.getD k 0)) ∧ (holeCells s e m)[k * 3 + 2]? = some (.int .i64 0)
  | 0, k, h => by omega
  | m + 1, k, h => by
    have hl := holeCells_length s e m
    rw [holeCells_succ]
    by_cases hk : k < m
    · obtain ⟨h0, h1, h2⟩ := holeCells_at s e m k hk
      rw [List.getElem?_append_left (by omega), List.getElem?_append_left (by omega), List.getElem?_append_left (by omega)]
      exact ⟨h0, h1, h2⟩
    · have : k = m := by omega
      subst this
      rw [List.getElem?_append_right (by omega), List.getElem?_append_right (by omega), List.getElem?_append_right (by omega), hl]
      simp

theorem ownsRow_cells {w : World} {base : Nat} {v : Value} {m : Nat} {s e : List Int} (h : w.ownsRow base 60 3 v m (holeCells s e m)) (t : Nat) (ht : w.cell? ⟨t, 2, none⟩ = some v) : Holes w t s e m := by
  obtain ⟨hl, h⟩ := h
  rcases h with ⟨rfl, rfl⟩ | ⟨g, cap, cur, rfl, _, hg, hc, _, hs, htk⟩
  · exact .inl ⟨ht, rfl⟩
  · refine .inr ⟨g, cap, ht, fun i hi => ?_⟩
    have key : ∀ j v, j < m * 3 → (holeCells s e m)[j]? = some v → w.cell? ⟨g, j, none⟩ = some v := by
      intro j v hj hv
      rw [← htk, List.getElem?_take_of_lt hj] at hv
      simp only [World.cell?, hg]
      simpa using hv
    obtain ⟨h0, h1, h2⟩ := holeCells_at s e m i hi
    exact ⟨key _ _ (by omega) h0, key _ _ (by omega) h1, key _ _ (by omega) h2⟩

theorem info60 : (Try.prog.info? 60).map (fun i => (i.zero, i.size, i.bytes)) = some (some (.agg #[.int .i64 0, .int .i64 0, .int .i64 0]), 3, 24) := by kernel_rfl

/-- The topic that ZZNext makes, with its first k placeholders. -/
structure Topic (w0 : World) (text : ByteArray) (lit : Bool) (s e : List Int) (k : Nat) (v : Value) (w : World) : Prop where
  c0 : w.cell? ⟨w0.heap.size, 0, none⟩ = some (.string text)
  c1 : w.cell? ⟨w0.heap.size, 1, none⟩ = some (.bool lit)
  c2 : w.cell? ⟨w0.heap.size, 2, none⟩ = some v
  fz : w.frozen? ⟨w0.heap.size, 2, none⟩ = false
  own : w.ownsRow (w0.heap.size + 1) 60 3 v k (holeCells s e k)
  below : Below w0.heap.size w0 w

theorem topic_step {w0 : World} {text : ByteArray} {lit : Bool} {s e : List Int} {k : Nat} {v : Value} {wr w7 : World} {v' : Value} {o : Obj} {y0 y1 : Int} (hT : Topic w0 text lit s e k v wr)
    (hs : holeCells s e (k + 1) = holeCells s e k ++ [.int .i64 y0, .int .i64 y1, .int .i64 0])
    (own7 : w7.ownsRow (w0.heap.size + 1) 60 3 v' (k + 1) (holeCells s e k ++ [.int .i64 y0, .int .i64 y1, .int .i64 0])) (gr7 : (wr.alloc o).drew.grownBy w7 v.ownBlock) :
    ∃ g cap, v' = .slice (some ⟨g, 0, none⟩) (k + 1) cap ∧ w7.cell? ⟨w0.heap.size, 2, none⟩ = some v ∧ w7.frozen? ⟨w0.heap.size, 2, none⟩ = false ∧ Topic w0 text lit s e (k + 1) v' (w7.setCell ⟨w0.heap.size, 2, none⟩ v') := by
  have hl : w0.heap.size < wr.heap.size := World.block_lt_of_cell? _ _ hT.c2
  have hne : ∀ b, b ≤ w0.heap.size → some b ≠ v.ownBlock := by
    intro b hb h
    rcases hT.own.2 with ⟨rfl, _⟩ | ⟨g, cap, cur, rfl, hg, _⟩
    · simp [Value.ownBlock] at h
    · simp [Value.ownBlock] at h
      omega
  have hblk : ∀ b, b ≤ w0.heap.size → w7.heap[b]? = wr.heap[b]? := by
    intro b hb
    rw [gr7.block b (by show b < (wr.alloc o).heap.size; simp; omega) (hne b hb)]
    exact Below.heap_alloc wr o b (by omega)
  have hbT : w7.heap[w0.heap.size]? = wr.heap[w0.heap.size]? := hblk _ (Nat.le_refl _)
  have kc : ∀ j, w7.cell? ⟨w0.heap.size, j, none⟩ = wr.cell? ⟨w0.heap.size, j, none⟩ := fun j => World.cell?_of_block (w := wr) hbT
  have kf : ∀ j, w7.frozen? ⟨w0.heap.size, j, none⟩ = wr.frozen? ⟨w0.heap.size, j, none⟩ := fun j => World.frozen?_of_block (w := wr) hbT
  have hform : ∃ g cap, v' = .slice (some ⟨g, 0, none⟩) (k + 1) cap := by
    rcases own7.2 with ⟨_, h⟩ | ⟨g, cap, cur, h, _⟩
    · omega
    · exact ⟨g, cap, h⟩
  obtain ⟨g, cap, hv⟩ := hform
  have c2 : w7.cell? ⟨w0.heap.size, 2, none⟩ = some v := (kc 2).trans hT.c2
  have hsz : wr.heap.size ≤ w7.heap.size := Nat.le_trans (by show wr.heap.size ≤ (wr.alloc o).heap.size; simp) gr7.size
  refine ⟨g, cap, hv, c2, (kf 2).trans hT.fz, ?_, ?_, ?_, ?_, ?_, ?_⟩
  · rw [World.cell?_setCell_other _ _ _ _ (by simp), kc 0]; exact hT.c0
  · rw [World.cell?_setCell_other _ _ _ _ (by simp), kc 1]; exact hT.c1
  · exact World.cell?_setCell_same _ _ _ c2
  · rw [World.frozen?_setCell, kf 2]; exact hT.fz
  · rw [hs]
    exact ownsRow_setCell_below own7 (by show w0.heap.size < w0.heap.size + 1; omega) _
  · have hB : Below w0.heap.size w0 w7 := ⟨gr7.os.trans hT.below.os, gr7.tape.trans hT.below.tape, gr7.output.trans hT.below.output, Nat.le_trans hT.below.size hsz, fun b hb => (hblk b (by omega)).trans (hT.below.block b hb)⟩
    exact hB.setCell (Nat.le_refl _) _
end Go.Proofs.Qxb6600528a.Nx
