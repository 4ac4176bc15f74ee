import Derived.Test.Qxb6604484aFmtFoWrong
import Derived.Maps.Own
import Derived.Maps.OwnOps
import Derived.Maps.OwnSet
import Derived.Maps.Views
import Derived.StringKeys
namespace Go.Proofs.Qxb6604484aFmt.Fo
open Go.RowKit Go.Maps Go.WideShapes Go.WideMaps
set_option linter.unusedVariables false
set_option maxRecDepth 100000

/-- How an element of the section's map reads. -/
def anyElem (v : Value) : Option (DataW Unit × List MemPlace) :=
  match v with
  | .nilIface => some (.nil, [])
  | .iface t x => match x with
    | .string s => if t = 9 then some (.lit (.string s.data.toList), []) else none
    | .int q n => if t = 2 ∧ q = .i64 then some (.lit (.int .i64 n), []) else none
    | _ => none
  | _ => none

theorem anyElem_str (s : ByteArray) : anyElem (.iface 9 (.string s)) = some (.lit (.string s.data.toList), []) := rfl
theorem anyElem_int (n : Int) : anyElem (.iface 2 (.int .i64 n)) = some (.lit (.int .i64 n), []) := rfl
theorem anyElem_nil : anyElem .nilIface = some (.nil, []) := rfl

theorem anyElem_str_inv {v : Value} {s : ByteArray} {ps : List MemPlace} (h : anyElem v = some (.lit (.string s.data.toList), ps)) : v = .iface 9 (.string s) := by
  unfold anyElem at h
  split at h
  · simp at h
  · split at h
    · split at h
      · rename_i s' ht
        simp at h
        subst ht
        have e : s' = s := bytes_inj (by simpa using h.1)
        rw [e]
      · simp at h
    · split at h <;> simp at h
    · simp at h
  · simp at h

theorem anyElem_int_inv {v : Value} {n : Int} {ps : List MemPlace} (h : anyElem v = some (.lit (.int .i64 n), ps)) : v = .iface 2 (.int .i64 n) := by
  unfold anyElem at h
  split at h
  · simp at h
  · split at h
    · split at h <;> simp at h
    · split at h
      · rename_i ht
        simp at h
        obtain ⟨rfl, rfl⟩ := ht
        rw [h.1]
      · simp at h
    · simp at h
  · simp at h

theorem anyElem_nil_inv {v : Value} {ps : List MemPlace} (h : anyElem v = some (.nil, ps)) : v = .nilIface := by
  unfold anyElem at h
  split at h
  · rfl
  · split at h
    · split at h <;> simp at h
    · split at h <;> simp at h
    · simp at h
  · simp at h

theorem law9 : Keyed Tryf.prog 9 := string_keyed Tryf.underlying9

/-- A section, its block at b, its map at m. -/
structure Sec (b m : Nat) (key base : ByteArray) (D : DataW Unit) (w : World) : Prop where
  c1 : w.cell? ⟨b, 1, none⟩ = some (.string key)
  c2 : w.cell? ⟨b, 2, none⟩ = some (.string base)
  c3 : w.cell? ⟨b, 3, none⟩ = some (.map (some m))
  c4 : w.cell? ⟨b, 4, none⟩ = some (.map none)
  fz : w.frozen? ⟨b, 4, none⟩ = false
  own : w.ownsMap Tryf.prog 9 anyElem m 2 D
  lt : m < b

def kl (s : ByteArray) : Lit := .string s.data.toList

/-- What the section's map holds. -/
def held (sk sv ik : ByteArray) (iv : Int) : DataW Unit := ((DataW.map []).put (kl sk) (.lit (.string sv.data.toList))).put (kl ik) (.lit (.int .i64 iv))

theorem key_mk (s : ByteArray) (h : s.size ≤ 65536) : keyOf Tryf.prog 9 (.string s) = some (kl s) := keyOf_string_mk Tryf.underlying9 (by unfold maxLen; omega)

set_option maxHeartbeats 1600000 in
theorem new_walk (key base sk sv ik : ByteArray) (iv : Int) (w : World) (h1 : sk.size ≤ 65536) (h2 : ik.size ≤ 65536) :
    Calls Tryf.prog 24 #[.string key, .string base, .string sk, .string sv, .string ik, .int .i64 iv] w fun e w' =>
      ∃ b m, e = .returned (.pointer (some ⟨b, 0, none⟩)) ∧ w.heap.size ≤ m ∧ Sec b m key base (held sk sv ik iv) w' ∧ Below w.heap.size w w' := by
  have hmm := @run_makeMap Tryf.prog
  have K1 := key_mk sk h1
  have K2 := key_mk ik h2
  have HK1 : Hid (keyOf Tryf.prog 9 (.string sk) = some (kl sk)) := K1
  have HK2 : Hid (keyOf Tryf.prog 9 (.string ik) = some (kl ik)) := K2
  clear K1 K2 h1 h2
  have hown0 : Hid ((w.alloc (.map #[] 0)).ownsMap Tryf.prog 9 anyElem w.heap.size 0 (.map [])) := World.ownsMap_made _ _ _ _
  go_enter Tryf.func24, Tryf.ntmps24
  go_wp2_with (first | (at_mapUpdate; refine wpList_mapUpdate_own _ rfl _ _ _ 48 rfl 9 20 law9 Tryf.underlying48 anyElem w.heap.size 0 _ rfl hown0.out (by unfold maxLen; omega) _ _ _ rfl rfl HK1.out _ [] (anyElem_str sv) ?_; intro w1 hown1 hgrow1) | (at_mapUpdate; refine wpList_mapUpdate_own _ rfl _ _ _ 48 rfl 9 20 law9 Tryf.underlying48 anyElem w.heap.size 1 _ rfl hown1 (by unfold maxLen; omega) _ _ _ rfl rfl HK2.out _ [] (anyElem_int iv) ?_; intro w2 hown2 hgrow2))
  go_ret
  have hB1 : Below w.heap.size w w1 := ((Below.refl w.heap.size w).alloc (Nat.le_refl _) _).grown hgrow1 (by simp) (fun k hk => by cases hk; exact Nat.le_refl _)
  have hB2 : Below w.heap.size w w2 := hB1.grown hgrow2 hB1.size (fun k hk => by cases hk; exact Nat.le_refl _)
  refine ⟨_, _, rfl, Nat.le_refl _, ⟨by go_simp, by go_simp, by go_simp, by go_simp, by go_simp, hown2.alloc _, hown2.lt⟩, hB2.alloc hB2.size _⟩

/-- Behind the mark 'read'. -/
theorem marked {b m : Nat} {key base : ByteArray} {D : DataW Unit} {w w1 : World} (S : Sec b m key base D w)
    (hg : ((w.setCell ⟨b, 4, none⟩ (.map (some w.heap.size))).alloc (.map #[] 0)).grownBy w1 (some w.heap.size)) :
    w1.cell? ⟨b, 1, none⟩ = some (.string key) ∧ w1.cell? ⟨b, 2, none⟩ = some (.string base) ∧ w1.cell? ⟨b, 3, none⟩ = some (.map (some m)) ∧ w1.ownsMap Tryf.prog 9 anyElem m 2 D ∧ Below m w w1 := by
  have hlt : b < w.heap.size := World.block_lt_of_cell? _ _ S.c4
  have hm := S.lt
  have hs : ((w.setCell ⟨b, 4, none⟩ (.map (some w.heap.size))).alloc (.map #[] 0)).heap.size = w.heap.size + 1 := by simp
  have hB : Below w.heap.size ((w.setCell ⟨b, 4, none⟩ (.map (some w.heap.size))).alloc (.map #[] 0)) w1 := (Below.refl _ _).grown hg (by omega) (fun k hk => by cases hk; exact Nat.le_refl _)
  have hc : ∀ j, j ≠ 4 → w1.cell? ⟨b, j, none⟩ = w.cell? ⟨b, j, none⟩ := fun j hj => by
    have hne : (⟨b, 4, none⟩ : Addr) ≠ ⟨b, j, none⟩ := by
      intro h
      injection h with h1 h2
      exact hj h2.symm
    rw [hB.cell (p := ⟨b, j, none⟩) hlt, World.cell?_alloc_past _ _ _ (by simpa using hlt), World.cell?_setCell_other _ _ _ _ hne]
  refine ⟨by rw [hc 1 (by decide)]; exact S.c1, by rw [hc 2 (by decide)]; exact S.c2, by rw [hc 3 (by decide)]; exact S.c3, ?_, ?_⟩
  · exact ((S.own.setCell (a := ⟨b, 4, none⟩) (by show m ≠ b; omega) _).alloc _).kept hg (by intro h; injection h with h; omega)
  · exact (((Below.refl m w).setCell (p := ⟨b, 4, none⟩) (by show m ≤ b; omega) _).alloc (by simp; omega) _).trans (hB.mono (by omega))

set_option maxHeartbeats 1600000 in
/-- (*Section).lookup. -/
theorem lookup_walk (b m : Nat) (key base k : ByteArray) (D : DataW Unit) (w : World) (hk : k.size ≤ 65536) (S : Sec b m key base D w) :
    Calls Tryf.prog 35 #[.pointer (some ⟨b, 0, none⟩), .string k] w fun e w' =>
      ∃ v ps, e = .returned (.tuple #[v, .bool (Maps.has D (kl k))]) ∧ anyElem v = some (D.atKey (kl k) .nil, ps) ∧
        w'.cell? ⟨b, 1, none⟩ = some (.string key) ∧ w'.cell? ⟨b, 2, none⟩ = some (.string base) ∧ Below m w w' := by
  have HS : Hid (Sec b m key base D w) := S
  obtain ⟨c1, c2, c3, c4, fz, own, lt⟩ := S
  have hmm := @run_makeMap Tryf.prog
  have q49 : ∀ (w : World) (r : Option Nat), (binOp .eql 49 (.map r) (.map none)).run Tryf.prog w = .ok (.bool r.isNone) w := fun w r => run_eql_map_nil w _ _ _ r Tryf.underlying49
  have HK : Hid (keyOf Tryf.prog 9 (.string k) = some (kl k)) := key_mk k hk
  have hownR : Hid (((w.setCell ⟨b, 4, none⟩ (.map (some w.heap.size))).alloc (.map #[] 0)).ownsMap (H := Unit) Tryf.prog 9 (plainElem Tryf.prog 4) w.heap.size 0 (.map [])) := by
    have h := World.ownsMap_made (H := Unit) (w.setCell ⟨b, 4, none⟩ (.map (some w.heap.size))) Tryf.prog 9 (plainElem Tryf.prog 4)
    have e : (w.setCell ⟨b, 4, none⟩ (.map (some w.heap.size))).heap.size = w.heap.size := by simp
    rw [e] at h
    exact h
  have hlt : b < w.heap.size := World.block_lt_of_cell? _ _ c4
  have d1 : (w.alloc (.map #[] 0)).cell? ⟨b, 1, none⟩ = some (.string key) := by rw [← c1]; exact World.cell?_alloc_past _ _ _ hlt
  have d2 : (w.alloc (.map #[] 0)).cell? ⟨b, 2, none⟩ = some (.string base) := by rw [← c2]; exact World.cell?_alloc_past _ _ _ hlt
  have d3 : (w.alloc (.map #[] 0)).cell? ⟨b, 3, none⟩ = some (.map (some m)) := by rw [← c3]; exact World.cell?_alloc_past _ _ _ hlt
  have d4 : (w.alloc (.map #[] 0)).cell? ⟨b, 4, none⟩ = some (.map none) := by rw [← c4]; exact World.cell?_alloc_past _ _ _ hlt
  have df : (w.alloc (.map #[] 0)).frozen? ⟨b, 4, none⟩ = false := by rw [← fz]; exact World.frozen?_alloc_past _ _ _ hlt
  have zero20 : ∀ w : World, (zeroValue 20).run Tryf.prog w = .ok .nilIface w := fun w => by kernel_rfl
  clear own lt hk c1 c2 c3 d1 d2 d3
  go_enter Tryf.func35, Tryf.ntmps35
  go_wp2_with (first | (at_mapUpdate; refine wpList_mapUpdate_own _ rfl _ _ _ 49 rfl 9 4 law9 Tryf.underlying49 (plainElem Tryf.prog 4) w.heap.size 0 _ rfl hownR.out (by unfold maxLen; omega) _ _ _ rfl rfl HK.out _ [] (plainElem_bool Tryf.underlying4 true) ?_; intro w1 hown1 hgrow1; obtain ⟨c1, c2, c3, own, hbe⟩ := marked HS.out hgrow1) | (at_lookup; refine wpList_lookup_own_ok _ rfl _ _ 48 rfl 9 20 law9 Tryf.underlying48 anyElem (zero20 _) .nil [] anyElem_nil m 2 D rfl own _ _ rfl HK.out ?_; intro v ps hv))
  go_ret2
  exact ⟨v, ps, rfl, hv, c1, c2, hbe⟩

theorem kl_ne {a b : ByteArray} (h : a ≠ b) : kl a ≠ kl b := by
  intro e
  injection e with e
  exact h (bytes_inj e)

theorem kl_key (s : ByteArray) : WideAt.IsKeyLit (kl s) := by unfold kl; trivial

theorem held_isMap (sk sv : ByteArray) : IsMap ((DataW.map [] : DataW Unit).put (kl sk) (.lit (.string sv.data.toList))) := isMap_empty.put _ _

/-- The integer's key. -/
theorem held_int (sk sv ik : ByteArray) (iv : Int) : (held sk sv ik iv).atKey (kl ik) .nil = .lit (.int .i64 iv) ∧ Maps.has (held sk sv ik iv) (kl ik) = true :=
  ⟨atKey_put_same (held_isMap sk sv) (kl_key ik) _ _, has_put_same (held_isMap sk sv) (kl_key ik) _⟩

/-- The string's key. -/
theorem held_str (sk sv ik : ByteArray) (iv : Int) (h : sk ≠ ik) : (held sk sv ik iv).atKey (kl sk) .nil = .lit (.string sv.data.toList) ∧ Maps.has (held sk sv ik iv) (kl sk) = true := by
  unfold held
  rw [atKey_put_other (kl_ne h), has_put_other (kl_ne h)]
  exact ⟨atKey_put_same isMap_empty (kl_key sk) _ _, has_put_same isMap_empty (kl_key sk) _⟩

/-- Any other key. -/
theorem held_none (sk sv ik k : ByteArray) (iv : Int) (h : k ≠ ik) (h' : k ≠ sk) : (held sk sv ik iv).atKey (kl k) .nil = .nil ∧ Maps.has (held sk sv ik iv) (kl k) = false := by
  unfold held
  rw [atKey_put_other (kl_ne h), has_put_other (kl_ne h), atKey_put_other (kl_ne h'), has_put_other (kl_ne h')]
  exact ⟨rfl, rfl⟩

end Go.Proofs.Qxb6604484aFmt.Fo
