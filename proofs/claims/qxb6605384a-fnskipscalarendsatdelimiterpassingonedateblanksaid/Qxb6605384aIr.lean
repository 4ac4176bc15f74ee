import Derived.Test.Qxb6605384aShelf
import Derived.WalkKit
import Derived.WalkSpells
import Derived.Laws.Runes
import Derived.Laws.RangeString
import Derived.Laws.RangeAny
import Derived.LoopTactic
import Derived.Deep.QuietTactic
import Derived.BigQuiet
import Derived.Lib.IndexLaws
import Derived.Scope
import Derived.Outline
namespace Go.Proofs.Qxb6605384a.Ir
open Go.RowKit
set_option linter.unusedVariables false

theorem idx_none (s : ByteArray) (a : Nat) (c : UInt8) (hs : ∀ i (h : i < s.size), (s[i]'h).toNat < 128) (hc : 128 ≤ c.toNat) (w : World) :
    Calls Try.prog 44 #[.string (s.extract a s.size), .int .u8 (c.toNat : Nat)] w fun e w' => e = .returned (.int .i64 (-1)) ∧ w' = w := by
  have h := Try.strings_IndexByte (s.extract a s.size) (c.toNat : Nat) w
  have e : Lib.indexByte (s.extract a s.size).data.toList ((c.toNat : Nat) : Int).toNat.toUInt8 = -1 := by
    have hge := Lib.indexByte_ge (s.extract a s.size).data.toList ((c.toNat : Nat) : Int).toNat.toUInt8
    by_cases h0 : Lib.indexByte (s.extract a s.size).data.toList ((c.toNat : Nat) : Int).toNat.toUInt8 = -1
    · exact h0
    · obtain ⟨j, hj⟩ : ∃ j : Nat, Lib.indexByte (s.extract a s.size).data.toList ((c.toNat : Nat) : Int).toNat.toUInt8 = j := ⟨(Lib.indexByte (s.extract a s.size).data.toList ((c.toNat : Nat) : Int).toNat.toUInt8).toNat, by omega⟩
      obtain ⟨h1, _⟩ := Lib.indexByte_some hj
      have hm := mem_extract (List.mem_of_getElem? h1)
      obtain ⟨i, hi, hib⟩ := List.getElem_of_mem hm
      have hi' : i < s.size := by rw [Array.length_toList] at hi; exact hi
      have h3 := hs i hi'
      have e3 : s[i] = ((c.toNat : Nat) : Int).toNat.toUInt8 := hib
      rw [e3] at h3
      simp at h3
      omega
  rw [e] at h
  exact h

set_option maxRecDepth 100000 in
set_option maxHeartbeats 1600000 in
/-- IndexRune(s, r), s of ASCII alone, r a rune beyond ASCII. -/
theorem ir_high (s : ByteArray) (r : Int) (w : World) (hs : ∀ i (h : i < s.size), (s[i]'h).toNat < 128) (h4 : 4 ≤ s.size) (hbig : s.size ≤ 1000) (h128 : 128 ≤ r) (hne : (r == 65533) = false) (hv : r < 55296 ∨ 57343 < r ∧ r ≤ 1114111) :
    Calls Try.prog 41 #[.string s, .int .i32 r] w fun e w' => e = .returned (.int .i64 (-1)) ∧ ∃ n, w' = w.drewN n := by
  have hval : Utf8.valid r = true := by rw [validRune_eq]; unfold validRune; rw [decide_eq_true]; omega
  obtain ⟨k2, k4, klast⟩ := encode_facts r hval h128
  obtain ⟨rs, hrs⟩ : ∃ rs, Utf8.encode r = rs := ⟨_, rfl⟩
  rw [hrs] at k2 k4
  have kl : ∀ h : rs.size - 1 < rs.size, 128 ≤ (rs[rs.size - 1]'h).toNat := by rw [← hrs]; exact klast
  clear klast hval
  obtain ⟨q, hq⟩ : ∃ q, rs.size = q + 1 := ⟨rs.size - 1, by omega⟩
  have hqs : q < rs.size := by omega
  have hlast : 128 ≤ (rs[q]'hqs).toNat := by
    have := kl (by omega)
    simpa [hq] using this
  have hq4 : q < s.size := by omega
  have hsq := hs q hq4
  have hqb : q ≤ 3 := by omega
  have hdiff : (((s[q].toNat : Nat) : Int) != ((rs[q].toNat : Nat) : Int)) = true := by rw [bne_iff_ne]; omega
  have HIX : Hid (∀ (w : World) k n, Calls Try.prog 44 #[.string (s.extract (q + 1) s.size), .int .u8 (rs[q].toNat : Nat)] (w.drewN (k + n)) fun e w' => e = .returned (.int .i64 (-1)) ∧ ∃ m, w' = w.drewN (k + m)) := fun w k n => (idx_none s (q + 1) rs[q] hs hlast (w.drewN (k + n))).mono fun e w' h => ⟨h.1, n, h.2⟩
  have hqI : (rs.size : Int) = (q : Int) + 1 := by omega
  have hix : ∀ w, (Instr.index 9 (.string rs) (.int .i64 (q : Int))).run Try.prog w = .ok (.int .u8 ((rs[q].toNat : Nat) : Int)) w := fun w => by
    rw [run_index_string (P := Try.prog) w 9 rs .i64 q Try.underlying9]
    simp [hqs]
  clear kl k2 k4 hlast hsq hs hq
  have hv' : (0 ≤ r ∧ r < 55296) ∨ (57343 < r ∧ r ≤ 1114111) := by omega
  clear hv
  rcases hv' with ⟨_, hv⟩ | ⟨hv1, hv2⟩
  all_goals
    go_enter Try.func41, Try.ntmps41
    go_wp2_with (go_at_call 45; go_in)
    refine wp_scope_straight ?_
    go_wp2_with fail
    go_loopw [9] (fun i wr => i = .int .i64 q ∧ wr = w) (fun _ _ => 0)
    case atStart => exact ⟨by go_num, rfl⟩
    case round =>
      obtain ⟨rfl, rfl⟩ := hrel
      go_wp2_with fail
      refine wp_scope_straight ?_
      go_wp2_with fail
      go_quiet (fail)
      go_wp2_with fail
      go_quiet ((go_at_call 44; exact HIX.out _ _ _))
      go_wp2_with fail
      rw [Exit.noGoto_ret]
      go_wp2_with fail
      rw [Exit.noGoto_ret]
      go_wp2_with fail
      go_ret
      exact ⟨rfl, _, rfl⟩
end Go.Proofs.Qxb6605384a.Ir
