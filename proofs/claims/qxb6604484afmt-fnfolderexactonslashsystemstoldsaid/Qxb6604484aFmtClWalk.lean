import Derived.Test.Qxb6604484aFmtClPlain
import Derived.Test.Qxb6604484aFmtProg
import Derived.WalkKit
import Derived.WalkSpells
import Derived.WalkSmall
import Derived.Below
import Derived.Lib.AppendStr
import Derived.Lib.Builder
import Derived.Laws.IdiomStrings
import Derived.Deep.DeepCutAuto
import Derived.Deep.CutBlock
import Derived.Outline
namespace Go.Proofs.Qxb6604484aFmt.Cl
open Go.RowKit
set_option linter.unusedVariables false

theorem info9 : (Tryf.prog.info? 9).map (fun i => (i.zero, i.size, i.bytes)) = some (some (.string ByteArray.empty), 1, 16) := by kernel_rfl
theorem info5 : (Tryf.prog.info? 5).map (fun i => (i.zero, i.size, i.bytes)) = some (some (.int .u8 0), 1, 1) := by kernel_rfl

/-- A segment as a value. -/
def sv (e : List UInt8) : Value := .string ⟨e.toArray⟩

theorem sv_data (b : ByteArray) : sv b.data.toList = .string b := by
  unfold sv
  congr

/-- The segments' slice: 'st' the last first. -/
def Segs (B : Nat) (w0 : World) (st : List (List UInt8)) (v : Value) (w : World) : Prop :=
  w.ownsRow B 9 1 v st.length (st.reverse.map sv) ∧ Below B w0 w ∧ B ≤ w.heap.size

theorem Segs.nil (w : World) : Segs w.heap.size w [] (.slice none 0 0) w := ⟨World.ownsRow_nil _ _ _ _, Below.refl _ _, Nat.le_refl _⟩

theorem Segs.alloc {B : Nat} {w0 : World} {st : List (List UInt8)} {v : Value} {w : World} (h : Segs B w0 st v w) (o : Obj) : Segs B w0 st v (w.alloc o) :=
  ⟨h.1.alloc o, h.2.1.alloc h.2.2 o, by have := h.2.2; simp; omega⟩

theorem Segs.push {B : Nat} {w0 : World} {st : List (List UInt8)} {v v' : Value} {w w' : World} {e : List UInt8} (h : Segs B w0 st v w)
    (ho : w'.ownsRow B 9 1 v' (st.length + 1) (st.reverse.map sv ++ [sv e])) (hg : w.grownBy w' v.ownBlock) : Segs B w0 (e :: st) v' w' :=
  ⟨by simpa using ho, h.2.1.grown hg h.2.2 (fun k hk => (h.1.lt k hk).1), Nat.le_trans h.2.2 hg.size⟩

theorem Segs.pop {B : Nat} {w0 : World} {x : List UInt8} {r : List (List UInt8)} {v : Value} {w : World} (h : Segs B w0 (x :: r) v w) :
    ∃ g cap, v = .slice (some ⟨g, 0, none⟩) (r.length + 1) cap ∧ w.cell? ⟨g, r.length, none⟩ = some (sv x) ∧ r.length + 1 ≤ cap ∧ Segs B w0 r (.slice (some ⟨g, 0, none⟩) r.length cap) w := by
  obtain ⟨ho, hb, hB⟩ := h
  have ho' : w.ownsRow B 9 1 v (r.length + 1) (r.reverse.map sv ++ [sv x]) := by simpa using ho
  rcases ho'.2 with ⟨_, e⟩ | ⟨g, cap, cur, rfl, hg, hh, hn, _⟩
  · omega
  · refine ⟨g, cap, rfl, ?_, hn, ownsRow_pop (by simp) ho', hb, hB⟩
    have hc := ho'.cells (g := g) rfl r.length (sv x) (by rw [List.getElem?_append_right (by simp)]; simp)
    have hadd : (⟨g, 0, none⟩ : Addr).add r.length = ⟨g, r.length, none⟩ := by unfold Addr.add; split <;> simp_all
    rw [hadd] at hc
    exact hc

theorem Segs.form {B : Nat} {w0 : World} {st : List (List UInt8)} {v : Value} {w : World} (h : Segs B w0 st v w) : ∃ a c, v = .slice a st.length c := by
  rcases h.1.2 with ⟨rfl, e⟩ | ⟨g, cap, cur, rfl, _⟩
  · exact ⟨none, 0, by rw [e]⟩
  · exact ⟨_, _, rfl⟩

theorem size_mk (l : List UInt8) : (⟨l.toArray⟩ : ByteArray).size = l.length := by
  show l.toArray.size = l.length
  simp

theorem sv_toList (x : List UInt8) : (⟨x.toArray⟩ : ByteArray).toList = x := by rw [Go.Lib.toList_data]

theorem one_new (w : World) (x : Value) (t : TypeId) : ∀ j u, [x][j]? = some u → (w.alloc (.cells #[x] t)).cell? ((⟨w.heap.size, 0, none⟩ : Addr).add j) = some u := by
  intro j u hj
  match j, hj with
  | 0, hj => simp at hj; subst hj; simp [Addr.add, go_sem]

theorem one_str (b : ByteArray) : ∀ u ∈ [Value.string b], u.oneCell' = true := by
  intro u hu; simp at hu; subst hu; rfl

theorem at_list (b : ByteArray) (i : Nat) (h : i < b.size) : b.data.toList[i]? = some b[i] := by
  rw [List.getElem?_eq_getElem (by simpa using h)]
  rfl

theorem len_list (b : ByteArray) : b.data.toList.length = b.size := by simp

theorem byte_ne {c : UInt8} (h : c ≠ 47) : (((c.toNat : Nat) : Int) == 47) = false := by
  rw [beq_eq_false_iff_ne]
  intro h3
  apply h
  apply UInt8.toNat_inj.1
  have h4 : (47 : UInt8).toNat = 47 := rfl
  omega

/-- Bytes as cells. -/
def bc (l : List UInt8) : List Value := l.map fun b => .int .u8 ((b.toNat : Nat) : Int)

/-- The buffer beside the segments. -/
structure Buf (B : Nat) (w0 : World) (K : List (List UInt8)) (v4 : Value) (bs : List UInt8) (v8 : Value) (w : World) : Prop where
  segs : Segs B w0 K v4 w
  own : w.ownsRow B 5 1 v8 bs.length (bc bs)
  nn : v8 ≠ .slice none 0 0

theorem Buf.alloc {B : Nat} {w0 : World} {K : List (List UInt8)} {v4 : Value} {bs : List UInt8} {v8 : Value} {w : World} (h : Buf B w0 K v4 bs v8 w) (o : Obj) : Buf B w0 K v4 bs v8 (w.alloc o) :=
  ⟨h.segs.alloc o, h.own.alloc o, h.nn⟩

theorem Buf.push {B : Nat} {w0 : World} {K : List (List UInt8)} {v4 : Value} {bs xs : List UInt8} {v8 v' : Value} {w w' : World} {m : Nat} (h : Buf B w0 K v4 bs v8 w) (hm : m = xs.length)
    (ho : w'.ownsRow B 5 1 v' (bs.length + m) (bc bs ++ bc xs)) (hg : w.grownBy w' v8.ownBlock) (hn : v' = .slice none 0 0 ↔ v8 = .slice none 0 0 ∧ m = 0) : Buf B w0 K v4 (bs ++ xs) v' w' := by
  subst hm
  have hne : v4.ownBlock = none ∨ v4.ownBlock ≠ v8.ownBlock := by
    rcases h.own.2 with ⟨e, _⟩ | ⟨g, cap, cur, e, _, hg2, _⟩
    · exact absurd e h.nn
    · right
      rw [e]
      exact Go.Lib.ownBlock_ne h.segs.1 hg2 (by decide)
  refine ⟨⟨h.segs.1.kept hg hne, h.segs.2.1.grown hg h.segs.2.2 (fun k hk => (h.own.lt k hk).1), Nat.le_trans h.segs.2.2 hg.size⟩, ?_, fun e => h.nn (hn.1 e).1⟩
  have e : bc (bs ++ xs) = bc bs ++ bc xs := by simp [bc]
  rw [e, List.length_append]
  exact ho

theorem Buf.form {B : Nat} {w0 : World} {K : List (List UInt8)} {v4 : Value} {bs : List UInt8} {v8 : Value} {w : World} (h : Buf B w0 K v4 bs v8 w) :
    ∃ g cap, v8 = .slice (some ⟨g, 0, none⟩) bs.length cap ∧ ∀ j (hj : j < bs.length), w.cell? ((⟨g, 0, none⟩ : Addr).add j) = some (.int .u8 ((bs[j].toNat : Nat) : Int)) := by
  rcases h.own.2 with ⟨e, _⟩ | ⟨g, cap, cur, e, _⟩
  · exact absurd e h.nn
  · refine ⟨g, cap, e, fun j hj => ?_⟩
    exact h.own.cells (g := g) (by rw [e]; rfl) j _ (by simp [bc, hj])

theorem Segs.at {B : Nat} {w0 : World} {K : List (List UInt8)} {v : Value} {w : World} (h : Segs B w0 K v w) {m : Nat} (hm : m < K.reverse.length) :
    ∃ g cap, v = .slice (some ⟨g, 0, none⟩) K.length cap ∧ w.cell? ⟨g, m, none⟩ = some (sv (K.reverse.getD m [])) := by
  have hm' : m < K.length := by simpa using hm
  rcases h.1.2 with ⟨_, e⟩ | ⟨g, cap, cur, e, _⟩
  · omega
  · refine ⟨g, cap, e, ?_⟩
    have hc := h.1.cells (g := g) (by rw [e]; rfl) m (sv (K.reverse.getD m [])) (by simp [hm'])
    have hadd : (⟨g, 0, none⟩ : Addr).add m = ⟨g, m, none⟩ := by unfold Addr.add; split <;> simp_all
    rw [hadd] at hc
    exact hc

theorem one_byte (x : Int) : ∀ u ∈ [Value.int .u8 x], u.oneCell' = true := by
  intro u hu; simp at hu; subst hu; rfl

set_option maxRecDepth 100000 in
set_option maxHeartbeats 3200000 in
theorem clean_walk (p : ByteArray) (w : World) (hsz : p.size ≤ 1048576) :
    Calls Tryf.prog 27 #[.string p] w fun e w' => e = .returned (.string ⟨(Go.Lib.Pa.cleanEls p.data.toList).toArray⟩) ∧ Below w.heap.size w w' := by
  obtain ⟨i9, h9a, h9b, h9c, h9d⟩ := info_parts info9
  obtain ⟨i5, h5a, h5b, h5c, h5d⟩ := info_parts info5
  go_enter Tryf.func27, Tryf.ntmps27
  obtain ⟨ro, hro⟩ : ∃ ro, (p.data.toList.head? == some 47) = ro := ⟨_, rfl⟩
  have HCE : Hid (Go.Lib.Pa.cleanEls p.data.toList = laid ro (kept ro [] p.data.toList).reverse) := by
    rw [← hro]
    exact clean_eq p.data.toList
  have HRO : Hid ((p.data.toList.head? == some 47) = ro) := hro
  clear hro
  go_upto_region 1 with fail
  go_cut [3] (fun v wc => v = .bool ro ∧ w = wc)
  case first =>
    by_cases h0 : 0 < p.size
    · have HR2 : Hid ((((p[0].toNat : Nat) : Int) == 47) = ro) := by
        have h := HRO.out
        have e : p.data.toList.head? = some p[0] := by rw [List.head?_eq_getElem?, at_list p 0 h0]
        rw [e] at h
        show _ = ro
        rw [← h]
        by_cases hc : p[0] = 47
        · rw [hc]; rfl
        · rw [byte_ne hc]
          simp [hc]
      go_wp2
      go_meet
      case rel => exact ⟨by rw [HR2.out], rfl⟩
    · have HR2 : Hid (ro = false) := by
        have h := HRO.out
        have e : p.data.toList = [] := List.eq_nil_of_length_eq_zero (by rw [len_list]; omega)
        rw [e] at h
        exact h.symm
      go_wp2
      go_meet
      case rel => exact ⟨by rw [HR2.out], rfl⟩
  case rest =>
    obtain ⟨rfl, rfl⟩ := hcut
    clear HRO
    go_upto_block 0 with fail
    go_cut [4, 5] (fun v _ wc => Segs w.heap.size w (kept ro [] p.data.toList) v wc ∧ tot (kept ro [] p.data.toList) ≤ 2 * p.size)
    case first =>
      go_wp2
      go_loopw [4, 5] (fun v i wr => ∃ (k : Nat) (st : List (List UInt8)), k ≤ p.size ∧ tot st ≤ 2 * k ∧ i = .int .i64 k ∧ kept ro st (p.data.toList.drop k) = kept ro [] p.data.toList ∧ Segs w.heap.size w st v wr) (fun _ i _ => p.size - (intOf i).toNat)
      case atStart => exact ⟨0, [], Nat.zero_le _, Nat.le_refl _, rfl, rfl, Segs.nil w⟩
      case round =>
        obtain ⟨k, st, hk, htt, rfl, hkept, hS⟩ := hrel
        have HTT : Hid (tot st ≤ 2 * k) := htt
        have hst : st.length ≤ 2 * k := Nat.le_trans (tot_ge st) htt
        clear htt
        have HK : Hid (kept ro st (p.data.toList.drop k) = kept ro [] p.data.toList) := hkept
        have HS : Hid (Segs w.heap.size w st u4 wr) := hS
        clear hkept hS
        by_cases hlt : k < p.size
        · have hat := at_list p k hlt
          have hdrop : p.data.toList.drop k = p[k] :: p.data.toList.drop (k + 1) := by
            rw [List.drop_eq_getElem_cons (by rw [len_list]; exact hlt)]
            rfl
          by_cases hc : p[k] = 47
          · have HK2 : Hid (kept ro st (p.data.toList.drop (k + 1)) = kept ro [] p.data.toList) := by
              have h := HK.out
              rw [hdrop, hc, kept_slash] at h
              exact h
            have hc' : (((p[k].toNat : Nat) : Int) == 47) = true := by rw [hc]; rfl
            clear hc hat hdrop HK
            go_wp2
            go_roundw
            case rel => exact ⟨k + 1, st, by omega, by have := HTT.out; omega, by go_num, HK2.out, HS.out⟩
            case measure => simp [intOf]; omega
          · have hc' := byte_ne hc
            obtain ⟨r, s1, s2, s3, s4⟩ := run_split p.data.toList k (by rw [len_list]; omega)
            have t1 := stop_ge p.data.toList k
            have t2 := stop_le p.data.toList k (by rw [len_list]; omega)
            rw [len_list] at t2
            have HIN : Hid (∀ j, k ≤ j → j < stop p.data.toList k → ∀ h : j < p.size, (((p[j].toNat : Nat) : Int) != 47) = true) := fun j j1 j2 h => by
              obtain ⟨d, d1, d2⟩ := stop_in p.data.toList k (j - k) (by omega)
              rw [show k + (j - k) = j by omega, at_list p j h] at d1
              have d3 : p[j] = d := Option.some.inj d1
              have d4 := byte_ne d2
              rw [← d3] at d4
              rw [bne, d4]
              rfl
            have HAT : Hid (∀ h : stop p.data.toList k < p.size, (((p[stop p.data.toList k].toNat : Nat) : Int) != 47) = false) := fun h => by
              have d1 := stop_at p.data.toList k (by rw [len_list]; exact h)
              rw [at_list p _ h] at d1
              rw [Option.some.inj d1]
              rfl
            have hks : k < stop p.data.toList k := by
              by_cases e : stop p.data.toList k = k
              · exfalso
                have d1 := stop_at p.data.toList k (by rw [len_list]; omega)
                rw [e, hat] at d1
                exact hc (Option.some.inj d1)
              · omega
            have hseg : (p.extract k (stop p.data.toList k)).data.toList = (p.data.toList.drop k).take (stop p.data.toList k - k) := Go.Lib.extract_data p k _
            have HK2 : Hid (kept ro (zstep ro st (p.extract k (stop p.data.toList k)).data.toList) (p.data.toList.drop (stop p.data.toList k)) = kept ro [] p.data.toList) := by
              have h := HK.out
              rw [s1, kept_run ro st _ r s3 s4, s2, ← hseg] at h
              exact h
            obtain ⟨sp, hsp⟩ : ∃ sp, stop p.data.toList k = sp := ⟨_, rfl⟩
            rw [hsp] at HIN HAT hks HK2 t2
            clear hsp s1 s2 s3 s4 hat hdrop hc HK t1 hseg
            go_upto_block 2 with fail
            go_cut [6] (fun v wc => v = .int .i64 sp ∧ wr = wc)
            case first =>
              go_wp2
              go_loop [6] (fun v => ∃ j : Nat, k ≤ j ∧ j ≤ sp ∧ v = .int .i64 j) (fun v => sp - (intOf v).toNat)
              case atStart => exact ⟨k, Nat.le_refl _, by omega, rfl⟩
              case round =>
                obtain ⟨j, j1, j2, rfl⟩ := hrel
                by_cases hj : j < sp
                · have hjs : j < p.size := by omega
                  have hin := HIN.out j j1 hj hjs
                  go_wp2
                  go_round
                  case rel => exact ⟨j + 1, by omega, by omega, by go_num⟩
                  case measure => simp [intOf]; omega
                · have hje : j = sp := by omega
                  subst hje
                  by_cases hjs : j < p.size
                  · have hat := HAT.out hjs
                    go_wp2
                    go_meet
                    case rel => exact ⟨rfl, rfl⟩
                  · go_wp2
                    go_meet
                    case rel => exact ⟨rfl, rfl⟩
            case rest =>
              obtain ⟨rfl, rfl⟩ := hcut
              clear HIN HAT
              obtain ⟨sg, hsg⟩ : ∃ sg, p.extract k sp = sg := ⟨_, rfl⟩
              rw [hsg] at HK2
              have hlen2 : st.length ≤ 2 * sp := by omega
              have hsgl : sg.data.toList.length = sp - k := by rw [len_list, ← hsg, ByteArray.size_extract]; omega
              have HSG : Hid (sg.data.toList.length = sp - k) := hsgl
              clear hsgl
              by_cases e1 : sg.data.toList = [46]
              · have e1' : (sg.toList == [46]) = true := by rw [Go.Lib.toList_data, e1]; rfl
                have HK3 : Hid (kept ro st (p.data.toList.drop sp) = kept ro [] p.data.toList) := by
                  have h := HK2.out
                  rw [e1] at h
                  exact h
                clear e1 HK2
                go_wp2
                go_roundw
                case rel => exact ⟨sp, st, by omega, by have := HTT.out; omega, rfl, HK3.out, HS.out⟩
                case measure => simp [intOf]; omega
              · have e1' : (sg.toList == [46]) = false := by rw [Go.Lib.toList_data]; simpa using e1
                by_cases e2 : sg.data.toList = [46, 46]
                · have e2' : (sg.toList == [46, 46]) = true := by rw [Go.Lib.toList_data, e2]; rfl
                  have hsp2 : k + 2 ≤ sp := by have h := HSG.out; rw [e2] at h; simp at h; omega
                  rw [e2] at HK2
                  clear e1 e2
                  cases st with
                  | nil =>
                    obtain ⟨sa, sc, hform⟩ := HS.out.form
                    subst hform
                    have hN1 : ([] : List (List UInt8)).length + 1 ≤ 4000000 := by simp
                    cases ro with
                    | true =>
                      have HK3 : Hid (kept true [] (p.data.toList.drop sp) = kept true [] p.data.toList) := HK2.out
                      clear HK2
                      go_wp2
                      go_roundw
                      case rel => exact ⟨sp, [], by omega, by simp [tot], rfl, HK3.out, HS.out⟩
                      case measure => simp [intOf]; omega
                    | false =>
                      have HK3 : Hid (kept false [[46, 46]] (p.data.toList.drop sp) = kept false [] p.data.toList) := HK2.out
                      clear HK2
                      go_wp2_with (at_builtin; refine wpList_append_own _ rfl (.tmp 69) (.tmp 70) 67 rfl w.heap.size 9 i9 (.string ByteArray.empty) 1 16 Tryf.underlying67 h9a h9b h9c h9d rfl (by decide) _ _ _ rfl (HS.out.alloc _).1 ⟨wr.heap.size, 0, none⟩ 1 1 [.string ⟨#[46, 46]⟩] rfl rfl (one_new _ _ _) (one_str _) (by unfold maxLen; omega) (by omega) (HS.out.alloc _).2.2 ?_; intro v' w5 own5 gr5 _; have HS5 : Hid (Segs w.heap.size w ([46, 46] :: []) v' w5) := (HS.out.alloc _).push own5 gr5; clear own5 gr5)
                      go_roundw
                      case rel => exact ⟨sp, [[46, 46]], by omega, by simp only [tot, List.length_cons, List.length_nil]; omega, rfl, HK3.out, HS5.out⟩
                      case measure => simp [intOf]; omega
                  | cons x r =>
                    have hN1 : (x :: r).length + 1 ≤ 4000000 := by omega
                    have hN2 : (x :: r).length = r.length + 1 := rfl
                    rw [hN2] at hlen2 hst
                    obtain ⟨g, cap, hform, hcell, hcap, hpop⟩ := HS.out.pop
                    have HPOP : Hid (Segs w.heap.size w r (.slice (some ⟨g, 0, none⟩) r.length cap) wr) := hpop
                    clear hpop
                    subst hform
                    unfold sv at hcell
                    have hxl := sv_toList x
                    have hri : (0 : Int) < (r.length : Int) + 1 := by omega
                    clear hN2
                    by_cases hx : x = [46, 46]
                    · have hx' : (x == [46, 46]) = true := by rw [hx]; rfl
                      cases ro with
                      | true =>
                        have HK3 : Hid (kept true (x :: r) (p.data.toList.drop sp) = kept true [] p.data.toList) := by
                          have h := HK2.out
                          simp [zstep, hx] at h
                          rw [hx]
                          exact h
                        clear HK2 hxl hx
                        go_wp2
                        go_roundw
                        case rel => exact ⟨sp, x :: r, by omega, by have := HTT.out; omega, rfl, HK3.out, HS.out⟩
                        case measure => simp [intOf]; omega
                      | false =>
                        have HK3 : Hid (kept false ([46, 46] :: x :: r) (p.data.toList.drop sp) = kept false [] p.data.toList) := by
                          have h := HK2.out
                          simp [zstep, hx] at h
                          rw [hx]
                          exact h
                        clear HK2 hxl hx
                        go_wp2_with (at_builtin; refine wpList_append_own _ rfl (.tmp 69) (.tmp 70) 67 rfl w.heap.size 9 i9 (.string ByteArray.empty) 1 16 Tryf.underlying67 h9a h9b h9c h9d rfl (by decide) _ _ _ rfl (HS.out.alloc _).1 ⟨wr.heap.size, 0, none⟩ 1 1 [.string ⟨#[46, 46]⟩] rfl rfl (one_new _ _ _) (one_str _) (by unfold maxLen; omega) (by omega) (HS.out.alloc _).2.2 ?_; intro v' w5 own5 gr5 _; have HS5 : Hid (Segs w.heap.size w ([46, 46] :: x :: r) v' w5) := (HS.out.alloc _).push own5 gr5; clear own5 gr5)
                        go_roundw
                        case rel => exact ⟨sp, [46, 46] :: x :: r, by omega, by have h := HTT.out; rw [show tot ([46, 46] :: x :: r) = 3 + tot (x :: r) from rfl]; omega, rfl, HK3.out, HS5.out⟩
                        case measure => simp [intOf]; omega
                    · have hx' : (x == [46, 46]) = false := by simpa using hx
                      have HK3 : Hid (kept ro r (p.data.toList.drop sp) = kept ro [] p.data.toList) := by
                        have h := HK2.out
                        simp [zstep, hx] at h
                        exact h
                      clear HK2 hxl hx
                      go_wp2
                      go_roundw
                      case rel => exact ⟨sp, r, by omega, by have h := HTT.out; simp only [tot] at h; omega, rfl, HK3.out, HPOP.out⟩
                      case measure => simp [intOf]; omega
                · have e2' : (sg.toList == [46, 46]) = false := by rw [Go.Lib.toList_data]; simpa using e2
                  have hne : sg.data.toList ≠ [] := by
                    intro e
                    have h1 := len_list sg
                    rw [e, ← hsg, ByteArray.size_extract] at h1
                    simp at h1
                    omega
                  have HK3 : Hid (kept ro (sg.data.toList :: st) (p.data.toList.drop sp) = kept ro [] p.data.toList) := by
                    have h := HK2.out
                    unfold zstep at h
                    rw [if_neg (by rintro (h | h); exact hne h; exact e1 h), if_neg e2] at h
                    exact h
                  clear e1 e2 hne HK2
                  go_wp2_with (at_builtin; refine wpList_append_own _ rfl (.tmp 72) (.tmp 74) 67 rfl w.heap.size 9 i9 (.string ByteArray.empty) 1 16 Tryf.underlying67 h9a h9b h9c h9d rfl (by decide) _ _ _ rfl (HS.out.alloc _).1 ⟨wr.heap.size, 0, none⟩ 1 1 [.string sg] rfl rfl (one_new _ _ _) (one_str _) (by unfold maxLen; omega) (by omega) (HS.out.alloc _).2.2 ?_; intro v' w5 own5 gr5 _; have HS5 : Hid (Segs w.heap.size w (sg.data.toList :: st) v' w5) := (HS.out.alloc _).push (by rw [sv_data]; exact own5) gr5; clear own5 gr5)
                  go_roundw
                  case rel => exact ⟨sp, sg.data.toList :: st, by omega, by have h := HTT.out; have h2 := HSG.out; simp only [tot]; omega, rfl, HK3.out, HS5.out⟩
                  case measure => simp [intOf]; omega
        · have HK2 : Hid (st = kept ro [] p.data.toList) := by
            have h := HK.out
            rw [List.drop_eq_nil_of_le (by rw [len_list]; omega), kept_nil] at h
            exact h
          clear HK
          go_wp2
          go_meet
          case rel => rw [← HK2.out]; exact ⟨HS.out, by have := HTT.out; omega⟩
    case rest =>
      obtain ⟨hS, hT⟩ := hcut
      obtain ⟨K, hK⟩ : ∃ K, kept ro [] p.data.toList = K := ⟨_, rfl⟩
      rw [hK] at hS hT HCE
      clear hK
      have HS : Hid (Segs w.heap.size w K u4 wc) := hS
      obtain ⟨sa, sc, hform⟩ := hS.form
      subst hform
      clear hS
      have hszi : (p.size : Int) + 1 = ((p.size + 1 : Nat) : Int) := by omega
      have HSZ : Hid ((p.size : Int) + 1 = ((p.size + 1 : Nat) : Int)) := hszi
      clear hszi
      go_upto_if 80 with (at_make; refine wpList_make_own _ rfl _ _ 68 rfl w.heap.size 5 i5 (.int .u8 0) 1 Tryf.underlying68 h5a h5b h5c .i64 .i64 _ (p.size + 1) rfl rfl HSZ.out (by rw [h5d]; omega) (by unfold maxLen; omega) HS.out.2.2 ?_; intro w2 own2 gr2; have HB0 : Hid (Buf w.heap.size w K (.slice sa K.length sc) [] (.slice (some ⟨wc.heap.size, 0, none⟩) 0 (p.size + 1)) w2) := ⟨⟨HS.out.1.kept gr2 (by cases h : (Value.slice sa K.length sc).ownBlock <;> simp), HS.out.2.1.grown gr2 HS.out.2.2 (fun k hk => by cases hk), Nat.le_trans HS.out.2.2 gr2.size⟩, own2, by simp⟩; clear own2 gr2)
      clear HS HSZ
      go_cut [8] (fun v wx => Buf w.heap.size w K (.slice sa K.length sc) (lp ro []) v wx)
      case first =>
        cases ro with
        | true =>
          go_wp2_with (at_builtin; refine wpList_append_own _ rfl (.tmp 81) (.tmp 82) 68 rfl w.heap.size 5 i5 (.int .u8 0) 1 1 Tryf.underlying68 h5a h5b h5c h5d rfl (by decide) _ _ _ rfl (HB0.out.alloc _).own ⟨w2.heap.size, 0, none⟩ 1 1 [.int .u8 47] rfl rfl (one_new _ _ _) (one_byte _) (by unfold maxLen; simp) (by simp) (HB0.out.alloc _).segs.2.2 ?_; intro v' w5 own5 gr5 hn5; have HB1 : Hid (Buf w.heap.size w K (.slice sa K.length sc) (lp true []) v' w5) := (HB0.out.alloc _).push (xs := [47]) rfl own5 gr5 hn5; clear own5 gr5 hn5)
          go_meet
          case rel => exact HB1.out
        | false =>
          go_wp2_with fail
          go_meet
          case rel => exact HB0.out
      case rest =>
        have HB : Hid (Buf w.heap.size w K (.slice sa K.length sc) (lp ro []) u8 wc) := hcut
        clear hcut
        go_wp2_with fail
        go_loopw [8, 9] (fun v i wr => ∃ m : Nat, m ≤ K.length ∧ i = .int .i64 m ∧ Buf w.heap.size w K (.slice sa K.length sc) (lp ro (K.reverse.take m)) v wr) (fun _ i _ => K.length - (intOf i).toNat)
        case atStart => exact ⟨0, Nat.zero_le _, rfl, HB.out⟩
        case round =>
          obtain ⟨m, hm, rfl, hB⟩ := hrel
          clear HB HB0
          have hKl : K.length ≤ tot K := tot_ge K
          have hll : (lp ro (K.reverse.take m)).length ≤ 1 + 2 * p.size := by
            have h1 := lp_len ro (K.reverse.take m)
            have h2 := tot_take K.reverse m
            rw [tot_reverse] at h2
            omega
          have HB : Hid (Buf w.heap.size w K (.slice sa K.length sc) (lp ro (K.reverse.take m)) u8 wr) := hB
          clear hB
          by_cases hlt : m < K.length
          · obtain ⟨g, cap, hform, hcell⟩ := HB.out.segs.at (m := m) (by simpa using hlt)
            simp only [Value.slice.injEq, true_and] at hform
            obtain ⟨rfl, rfl⟩ := hform
            have hsl := tot_at K.reverse m (by simpa using hlt)
            rw [tot_reverse] at hsl
            have htk : K.reverse.take (m + 1) = K.reverse.take m ++ [K.reverse.getD m []] := by
              rw [List.take_succ_eq_append_getElem (by simpa using hlt)]
              simp [hlt]
            have HTK : Hid (K.reverse.take (m + 1) = K.reverse.take m ++ [K.reverse.getD m []]) := htk
            obtain ⟨sm, hsm⟩ : ∃ sm, K.reverse.getD m [] = sm := ⟨_, rfl⟩
            have HSM : Hid (∀ v wx, ∀ {bs : List UInt8}, Buf w.heap.size w K (.slice (some ⟨g, 0, none⟩) K.length sc) bs v wx → wx.cell? ⟨g, m, none⟩ = some (.string ⟨sm.toArray⟩)) := fun v wx bs hb => by
              obtain ⟨g', cap', hf', hc'⟩ := hb.segs.at (m := m) (by simpa using hlt)
              simp only [Value.slice.injEq, Option.some.injEq, Addr.mk.injEq, true_and] at hf'
              obtain ⟨⟨e1, _⟩, _⟩ := hf'
              subst e1
              rw [hsm] at hc'
              exact hc'
            rw [hsm] at hcell hsl HTK
            unfold sv at hcell
            obtain ⟨pre, hpre⟩ : ∃ pre, lp ro (K.reverse.take m) = pre := ⟨_, rfl⟩
            rw [hpre] at HB hll
            clear hsm htk
            by_cases h0 : m = 0
            · subst h0
              have HL : Hid (lp ro (K.reverse.take (0 + 1)) = pre ++ sm) := by
                show _ = _
                rw [HTK.out, ← hpre]
                exact lp_first ro sm
              have HBX : Hid (Buf w.heap.size w K (.slice (some ⟨g, 0, none⟩) K.length sc) pre u8 wr) := HB.out
              clear hpre HTK HB
              go_wp2_with (at_builtin; refine Go.Lib.wpList_append_own_string _ rfl (.tmp 95) (.tmp 99) 68 9 rfl w.heap.size 5 i5 Tryf.underlying68 Tryf.underlying9 h5a h5b h5c h5d _ _ _ rfl HBX.out.own ⟨sm.toArray⟩ rfl (by unfold maxLen; have h := size_mk sm; omega) (by have h := size_mk sm; omega) HBX.out.segs.2.2 ?_; intro v' w5 own5 gr5 hn5; have HB1 : Hid (Buf w.heap.size w K (.slice (some ⟨g, 0, none⟩) K.length sc) (pre ++ sm) v' w5) := HBX.out.push (size_mk sm) own5 gr5 hn5; clear own5 gr5 hn5)
              go_roundw
              case rel => exact ⟨0 + 1, by omega, by go_num, by rw [HL.out]; exact HB1.out⟩
              case measure => simp [intOf]; omega
            · have h0i : (0 : Int) < (m : Int) := by omega
              have HL : Hid (lp ro (K.reverse.take (m + 1)) = pre ++ [47] ++ sm) := by
                show _ = _
                rw [HTK.out, ← hpre]
                refine lp_snoc ro _ sm ?_
                intro e
                have e2 : (K.reverse.take m).length = 0 := by rw [e]; rfl
                rw [List.length_take, List.length_reverse] at e2
                omega
              have HL2 : Hid ((pre ++ [47]).length = pre.length + 1) := by simp [Hid]
              clear hpre HTK
              go_wp2_with (first | (at_builtin; refine wpList_append_own _ rfl (.tmp 92) (.tmp 93) 68 rfl w.heap.size 5 i5 (.int .u8 0) 1 1 Tryf.underlying68 h5a h5b h5c h5d rfl (by decide) _ _ _ rfl (HB.out.alloc _).own ⟨wr.heap.size, 0, none⟩ 1 1 [.int .u8 47] rfl rfl (one_new _ _ _) (one_byte _) (by unfold maxLen; omega) (by omega) (HB.out.alloc _).segs.2.2 ?_; intro v7 w7 own7 gr7 hn7; have HBX : Hid (Buf w.heap.size w K (.slice (some ⟨g, 0, none⟩) K.length sc) (pre ++ [47]) v7 w7) := (HB.out.alloc _).push (xs := [47]) rfl own7 gr7 hn7; have hcell7 : w7.cell? ⟨g, m, none⟩ = some (.string ⟨sm.toArray⟩) := HSM.out _ _ HBX.out; clear own7 gr7 hn7) | (at_builtin; refine Go.Lib.wpList_append_own_string _ rfl (.tmp 95) (.tmp 99) 68 9 rfl w.heap.size 5 i5 Tryf.underlying68 Tryf.underlying9 h5a h5b h5c h5d _ _ _ rfl HBX.out.own ⟨sm.toArray⟩ rfl (by unfold maxLen; have h := size_mk sm; have h2 := HL2.out; omega) (by have h := size_mk sm; have h2 := HL2.out; omega) HBX.out.segs.2.2 ?_; intro v' w5 own5 gr5 hn5; have HB1 : Hid (Buf w.heap.size w K (.slice (some ⟨g, 0, none⟩) K.length sc) (pre ++ [47] ++ sm) v' w5) := HBX.out.push (size_mk sm) own5 gr5 hn5; clear own5 gr5 hn5))
              go_roundw
              case rel => exact ⟨m + 1, by omega, by go_num, by rw [HL.out]; exact HB1.out⟩
              case measure => simp [intOf]; omega
          · have htk : K.reverse.take m = K.reverse := List.take_of_length_le (by simp; omega)
            rw [htk] at HB hll
            have HR : Hid (Go.Lib.Pa.cleanEls p.data.toList = if lp ro K.reverse = [] then [46] else lp ro K.reverse) := by
              have h := HCE.out
              rw [laid_lp] at h
              exact h
            obtain ⟨bs, hbs⟩ : ∃ bs, lp ro K.reverse = bs := ⟨_, rfl⟩
            rw [hbs] at HB HR hll
            obtain ⟨g, cap, hform, hcells⟩ := HB.out.form
            have HCV : Hid (∀ j (hj : j < bs.length), wr.cell? ((⟨g, 0, none⟩ : Addr).add j) = some (.int .u8 ((bs[j].toNat : Nat) : Int))) := hcells
            subst hform
            have HBL : Hid (Below w.heap.size w wr) := HB.out.segs.2.1
            clear htk hbs HCE hcells HB
            by_cases hb0 : bs = []
            · have HR2 : Hid (Go.Lib.Pa.cleanEls p.data.toList = [46]) := by
                have h := HR.out
                rw [if_pos hb0] at h
                exact h
              have hbl : ((bs.length : Int) == 0) = true := by rw [hb0]; rfl
              clear HR hb0 HCV
              go_wp2_with fail
              go_ret
              exact ⟨by rw [HR2.out]; rfl, HBL.out⟩
            · have HR2 : Hid (Go.Lib.Pa.cleanEls p.data.toList = bs) := by
                have h := HR.out
                rw [if_neg hb0] at h
                exact h
              have hbl : ((bs.length : Int) == 0) = false := by
                rw [beq_eq_false_iff_ne]
                intro e
                exact hb0 (List.eq_nil_of_length_eq_zero (by omega))
              have hconv := run_convert_bytes_back (P := Tryf.prog) wr 68 9 5 ⟨g, 0, none⟩ cap bs Tryf.underlying68 Tryf.underlying5 Tryf.underlying9 HCV.out
              clear HR hb0 HCV
              go_wp2_with fail
              go_ret
              exact ⟨by rw [HR2.out]; rfl, HBL.out⟩
end Go.Proofs.Qxb6604484aFmt.Cl
