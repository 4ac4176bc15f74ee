import Derived.Test.Qxb6601959aWalks
import Derived.RowKit3
namespace Go.Proofs.Qxb6601959a.Ir
open Go.RowKit
set_option linter.unusedVariables false

theorem frozen_iter (w : World) (s : ByteArray) (p : Nat) (a : Addr) : (w.alloc (.stringIter s p)).frozen? a = w.frozen? a := by
  by_cases h : a.block = w.heap.size
  · have e1 : (w.alloc (.stringIter s p)).heap[a.block]? = some (.stringIter s p) := by rw [h]; exact (MapKept.heap_alloc w _).1
    have e2 : w.heap[a.block]? = none := by rw [h]; simp
    simp [World.frozen?, e1, e2]
  · exact World.frozen?_alloc_old _ _ _ h

theorem grown_iter (w : World) (s : ByteArray) (p : Nat) : Grown w (w.iter s p) :=
  ⟨World.keptBut_trans (World.keptBut_refl _ _) (World.keptBut_alloc _ _ _), fun a => frozen_iter w s p a, by show w.heap.size ≤ (w.heap.push _).size; simp⟩

theorem grown_drawn (w : World) (n : Nat) : Grown w (w.drewN n) := by
  obtain ⟨a, b, c⟩ := World.keptBut_refl w (fun _ => False)
  exact ⟨⟨a, b, c⟩, fun _ => rfl, Nat.le_refl _⟩

/-- The characters beside letters and digits that may stand in a path. -/
def S : ByteArray := ⟨#[45, 46, 95, 126, 33, 36, 38, 39, 40, 41, 42, 43, 44, 59, 61, 58, 64, 47, 37]⟩

theorem S_ascii : ∀ i (h : i < S.size), (S[i]'h).toNat < 128 := by
  have h : ∀ i : Fin 19, (S.data[i.val]'i.isLt).toNat < 128 := by decide
  intro i hi
  exact h ⟨i, hi⟩

/-- Is the ASCII character n among them? -/
def inS (n : Nat) : Bool := decide (0 ≤ Lib.indexByte S.data.toList n.toUInt8)

set_option maxRecDepth 100000 in
theorem inS_table : ∀ n : Fin 128, inS n.val = (n.val == 33 || (decide (36 ≤ n.val) && decide (n.val ≤ 47)) || n.val == 58 || n.val == 59 || n.val == 61 || n.val == 64 || n.val == 95 || n.val == 126) := by decide

set_option maxRecDepth 100000 in
set_option maxHeartbeats 1600000 in
theorem contains_high (r : Int) (w : World) (h : r < 0 ∨ 128 ≤ r) :
    Calls Try.prog 7 #[.string S, .int .i32 r] w fun e w' => e = .returned (.bool false) ∧ Grown w w' := by
  have hz : S.size = 19 := rfl
  have key : ∀ w, Calls Try.prog 8 #[.string S, .int .i32 r] w fun e w' => e = .returned (.int .i64 (-1)) ∧ Grown w w' := by
    intro w
    by_cases hb : r < 0 ∨ 55296 ≤ r ∧ r ≤ 57343 ∨ 1114111 < r
    · refine (ir_bad S r w hb).mono ?_
      rintro e w' ⟨rfl, rfl⟩
      exact ⟨rfl, Grown.refl _⟩
    · by_cases he : r = 65533
      · subst he
        refine (ir_error S w S_ascii).mono ?_
        rintro e w' ⟨rfl, p, rfl⟩
        exact ⟨rfl, grown_iter _ _ _⟩
      · refine (ir_high S r w S_ascii (by omega) (by omega) (by omega) (by rw [beq_eq_false_iff_ne]; exact he) (by omega)).mono ?_
        rintro e w' ⟨rfl, n, rfl⟩
        exact ⟨rfl, grown_drawn _ _⟩
  have HK : Hid (∀ w, Calls Try.prog 8 #[.string S, .int .i32 r] w fun e w' => e = .returned (.int .i64 (-1)) ∧ Grown w w') := key
  obtain ⟨T, hT⟩ : ∃ T, S = T := ⟨_, rfl⟩
  rw [hT] at HK ⊢
  clear key h hz hT
  go_enter Try.func7, Try.ntmps7
  go_wp2_with (go_at_call 8; refine (HK.out _).mono ?_; rintro e w' ⟨rfl, hg⟩)
  go_ret
  exact ⟨rfl, hg⟩

theorem contains_ascii (r : Nat) (w : World) (h : r < 128) :
    Calls Try.prog 7 #[.string S, .int .i32 r] w fun e w' => e = .returned (.bool (inS r)) ∧ Grown w w' := by
  refine (Try.strings_ContainsRune_ascii S r w (by omega) (by omega)).mono ?_
  rintro e w' ⟨rfl, rfl⟩
  exact ⟨rfl, Grown.refl _⟩

set_option maxHeartbeats 800000 in
theorem law_l97 (r : Int) (w : World) (h0 : 97 ≤ r) (h1 : r ≤ 122) :
    Calls Try.prog 3 #[.int .i32 r] w fun e w' => e = .returned (.bool true) ∧ Grown w w' := by
  go_enter Try.func3, Try.ntmps3
  go_wp2
  go_ret
  exact ⟨rfl, Grown.refl _⟩

set_option maxHeartbeats 800000 in
theorem law_l65 (r : Int) (w : World) (h0 : 65 ≤ r) (h1 : r ≤ 90) :
    Calls Try.prog 3 #[.int .i32 r] w fun e w' => e = .returned (.bool true) ∧ Grown w w' := by
  go_enter Try.func3, Try.ntmps3
  go_wp2
  go_ret
  exact ⟨rfl, Grown.refl _⟩

set_option maxHeartbeats 800000 in
theorem law_l48 (r : Int) (w : World) (h0 : 48 ≤ r) (h1 : r ≤ 57) :
    Calls Try.prog 3 #[.int .i32 r] w fun e w' => e = .returned (.bool true) ∧ Grown w w' := by
  go_enter Try.func3, Try.ntmps3
  go_wp2
  go_ret
  exact ⟨rfl, Grown.refl _⟩

set_option maxHeartbeats 800000 in
theorem law_y33 (r : Int) (w : World) (h0 : 33 ≤ r) (h1 : r ≤ 33) (hC : Hid (∀ w, Calls Try.prog 7 #[.string S, .int .i32 r] w fun e w' => e = .returned (.bool true) ∧ Grown w w')) :
    Calls Try.prog 3 #[.int .i32 r] w fun e w' => e = .returned (.bool true) ∧ Grown w w' := by
  go_enter Try.func3, Try.ntmps3
  go_wp2_with (first | (go_at_call 7; refine (hC.out _).mono ?_; rintro e w' ⟨rfl, hg⟩) | go_in)
  go_ret
  exact ⟨rfl, hg⟩

set_option maxHeartbeats 800000 in
theorem law_y36 (r : Int) (w : World) (h0 : 36 ≤ r) (h1 : r ≤ 47) (hC : Hid (∀ w, Calls Try.prog 7 #[.string S, .int .i32 r] w fun e w' => e = .returned (.bool true) ∧ Grown w w')) :
    Calls Try.prog 3 #[.int .i32 r] w fun e w' => e = .returned (.bool true) ∧ Grown w w' := by
  go_enter Try.func3, Try.ntmps3
  go_wp2_with (first | (go_at_call 7; refine (hC.out _).mono ?_; rintro e w' ⟨rfl, hg⟩) | go_in)
  go_ret
  exact ⟨rfl, hg⟩

set_option maxHeartbeats 800000 in
theorem law_y58 (r : Int) (w : World) (h0 : 58 ≤ r) (h1 : r ≤ 59) (hC : Hid (∀ w, Calls Try.prog 7 #[.string S, .int .i32 r] w fun e w' => e = .returned (.bool true) ∧ Grown w w')) :
    Calls Try.prog 3 #[.int .i32 r] w fun e w' => e = .returned (.bool true) ∧ Grown w w' := by
  go_enter Try.func3, Try.ntmps3
  go_wp2_with (first | (go_at_call 7; refine (hC.out _).mono ?_; rintro e w' ⟨rfl, hg⟩) | go_in)
  go_ret
  exact ⟨rfl, hg⟩

set_option maxHeartbeats 800000 in
theorem law_y61 (r : Int) (w : World) (h0 : 61 ≤ r) (h1 : r ≤ 61) (hC : Hid (∀ w, Calls Try.prog 7 #[.string S, .int .i32 r] w fun e w' => e = .returned (.bool true) ∧ Grown w w')) :
    Calls Try.prog 3 #[.int .i32 r] w fun e w' => e = .returned (.bool true) ∧ Grown w w' := by
  go_enter Try.func3, Try.ntmps3
  go_wp2_with (first | (go_at_call 7; refine (hC.out _).mono ?_; rintro e w' ⟨rfl, hg⟩) | go_in)
  go_ret
  exact ⟨rfl, hg⟩

set_option maxHeartbeats 800000 in
theorem law_y64 (r : Int) (w : World) (h0 : 64 ≤ r) (h1 : r ≤ 64) (hC : Hid (∀ w, Calls Try.prog 7 #[.string S, .int .i32 r] w fun e w' => e = .returned (.bool true) ∧ Grown w w')) :
    Calls Try.prog 3 #[.int .i32 r] w fun e w' => e = .returned (.bool true) ∧ Grown w w' := by
  go_enter Try.func3, Try.ntmps3
  go_wp2_with (first | (go_at_call 7; refine (hC.out _).mono ?_; rintro e w' ⟨rfl, hg⟩) | go_in)
  go_ret
  exact ⟨rfl, hg⟩

set_option maxHeartbeats 800000 in
theorem law_y95 (r : Int) (w : World) (h0 : 95 ≤ r) (h1 : r ≤ 95) (hC : Hid (∀ w, Calls Try.prog 7 #[.string S, .int .i32 r] w fun e w' => e = .returned (.bool true) ∧ Grown w w')) :
    Calls Try.prog 3 #[.int .i32 r] w fun e w' => e = .returned (.bool true) ∧ Grown w w' := by
  go_enter Try.func3, Try.ntmps3
  go_wp2_with (first | (go_at_call 7; refine (hC.out _).mono ?_; rintro e w' ⟨rfl, hg⟩) | go_in)
  go_ret
  exact ⟨rfl, hg⟩

set_option maxHeartbeats 800000 in
theorem law_y126 (r : Int) (w : World) (h0 : 126 ≤ r) (h1 : r ≤ 126) (hC : Hid (∀ w, Calls Try.prog 7 #[.string S, .int .i32 r] w fun e w' => e = .returned (.bool true) ∧ Grown w w')) :
    Calls Try.prog 3 #[.int .i32 r] w fun e w' => e = .returned (.bool true) ∧ Grown w w' := by
  go_enter Try.func3, Try.ntmps3
  go_wp2_with (first | (go_at_call 7; refine (hC.out _).mono ?_; rintro e w' ⟨rfl, hg⟩) | go_in)
  go_ret
  exact ⟨rfl, hg⟩

set_option maxHeartbeats 800000 in
theorem law_n0 (r : Int) (w : World) (h1 : r ≤ 32) (hC : Hid (∀ w, Calls Try.prog 7 #[.string S, .int .i32 r] w fun e w' => e = .returned (.bool false) ∧ Grown w w')) :
    Calls Try.prog 3 #[.int .i32 r] w fun e w' => e = .returned (.bool true) ∧ Grown w w' := by
  go_enter Try.func3, Try.ntmps3
  go_wp2_with (first | (go_at_call 7; refine (hC.out _).mono ?_; rintro e w' ⟨rfl, hg⟩) | go_in)
  go_ret
  exact ⟨rfl, hg⟩

set_option maxHeartbeats 800000 in
theorem law_n34 (r : Int) (w : World) (h0 : 34 ≤ r) (h1 : r ≤ 35) (hC : Hid (∀ w, Calls Try.prog 7 #[.string S, .int .i32 r] w fun e w' => e = .returned (.bool false) ∧ Grown w w')) :
    Calls Try.prog 3 #[.int .i32 r] w fun e w' => e = .returned (.bool true) ∧ Grown w w' := by
  go_enter Try.func3, Try.ntmps3
  go_wp2_with (first | (go_at_call 7; refine (hC.out _).mono ?_; rintro e w' ⟨rfl, hg⟩) | go_in)
  go_ret
  exact ⟨rfl, hg⟩

set_option maxHeartbeats 800000 in
theorem law_n60 (r : Int) (w : World) (h0 : 60 ≤ r) (h1 : r ≤ 60) (hC : Hid (∀ w, Calls Try.prog 7 #[.string S, .int .i32 r] w fun e w' => e = .returned (.bool false) ∧ Grown w w')) :
    Calls Try.prog 3 #[.int .i32 r] w fun e w' => e = .returned (.bool true) ∧ Grown w w' := by
  go_enter Try.func3, Try.ntmps3
  go_wp2_with (first | (go_at_call 7; refine (hC.out _).mono ?_; rintro e w' ⟨rfl, hg⟩) | go_in)
  go_ret
  exact ⟨rfl, hg⟩

set_option maxHeartbeats 800000 in
theorem law_n62 (r : Int) (w : World) (h0 : 62 ≤ r) (h1 : r ≤ 63) (hC : Hid (∀ w, Calls Try.prog 7 #[.string S, .int .i32 r] w fun e w' => e = .returned (.bool false) ∧ Grown w w')) :
    Calls Try.prog 3 #[.int .i32 r] w fun e w' => e = .returned (.bool true) ∧ Grown w w' := by
  go_enter Try.func3, Try.ntmps3
  go_wp2_with (first | (go_at_call 7; refine (hC.out _).mono ?_; rintro e w' ⟨rfl, hg⟩) | go_in)
  go_ret
  exact ⟨rfl, hg⟩

set_option maxHeartbeats 800000 in
theorem law_n91 (r : Int) (w : World) (h0 : 91 ≤ r) (h1 : r ≤ 94) (hC : Hid (∀ w, Calls Try.prog 7 #[.string S, .int .i32 r] w fun e w' => e = .returned (.bool false) ∧ Grown w w')) :
    Calls Try.prog 3 #[.int .i32 r] w fun e w' => e = .returned (.bool true) ∧ Grown w w' := by
  go_enter Try.func3, Try.ntmps3
  go_wp2_with (first | (go_at_call 7; refine (hC.out _).mono ?_; rintro e w' ⟨rfl, hg⟩) | go_in)
  go_ret
  exact ⟨rfl, hg⟩

set_option maxHeartbeats 800000 in
theorem law_n96 (r : Int) (w : World) (h0 : 96 ≤ r) (h1 : r ≤ 96) (hC : Hid (∀ w, Calls Try.prog 7 #[.string S, .int .i32 r] w fun e w' => e = .returned (.bool false) ∧ Grown w w')) :
    Calls Try.prog 3 #[.int .i32 r] w fun e w' => e = .returned (.bool true) ∧ Grown w w' := by
  go_enter Try.func3, Try.ntmps3
  go_wp2_with (first | (go_at_call 7; refine (hC.out _).mono ?_; rintro e w' ⟨rfl, hg⟩) | go_in)
  go_ret
  exact ⟨rfl, hg⟩

set_option maxHeartbeats 800000 in
theorem law_n123 (r : Int) (w : World) (h0 : 123 ≤ r) (h1 : r ≤ 125) (hC : Hid (∀ w, Calls Try.prog 7 #[.string S, .int .i32 r] w fun e w' => e = .returned (.bool false) ∧ Grown w w')) :
    Calls Try.prog 3 #[.int .i32 r] w fun e w' => e = .returned (.bool true) ∧ Grown w w' := by
  go_enter Try.func3, Try.ntmps3
  go_wp2_with (first | (go_at_call 7; refine (hC.out _).mono ?_; rintro e w' ⟨rfl, hg⟩) | go_in)
  go_ret
  exact ⟨rfl, hg⟩

set_option maxHeartbeats 800000 in
theorem law_n127 (r : Int) (w : World) (h0 : 127 ≤ r) (hC : Hid (∀ w, Calls Try.prog 7 #[.string S, .int .i32 r] w fun e w' => e = .returned (.bool false) ∧ Grown w w')) :
    Calls Try.prog 3 #[.int .i32 r] w fun e w' => e = .returned (.bool true) ∧ Grown w w' := by
  go_enter Try.func3, Try.ntmps3
  go_wp2_with (first | (go_at_call 7; refine (hC.out _).mono ?_; rintro e w' ⟨rfl, hg⟩) | go_in)
  go_ret
  exact ⟨rfl, hg⟩

theorem law (r : Int) (w : World) : Calls Try.prog 3 #[.int .i32 r] w fun e w' => e = .returned (.bool true) ∧ Grown w w' := by
  have hC : ∃ c : Bool, (∀ w, Calls Try.prog 7 #[.string S, .int .i32 r] w fun e w' => e = .returned (.bool c) ∧ Grown w w') ∧
      (c = true → r = 33 ∨ 36 ≤ r ∧ r ≤ 47 ∨ r = 58 ∨ r = 59 ∨ r = 61 ∨ r = 64 ∨ r = 95 ∨ r = 126) ∧
      (c = false → ¬ (r = 33 ∨ 36 ≤ r ∧ r ≤ 47 ∨ r = 58 ∨ r = 59 ∨ r = 61 ∨ r = 64 ∨ r = 95 ∨ r = 126)) := by
    by_cases h : r < 0 ∨ 128 ≤ r
    · exact ⟨false, fun w => contains_high r w h, fun e => (by cases e), fun _ => by omega⟩
    · obtain ⟨n, rfl⟩ : ∃ n : Nat, r = n := ⟨r.toNat, by omega⟩
      have hn : n < 128 := by omega
      have ht := inS_table ⟨n, hn⟩
      refine ⟨inS n, fun w => contains_ascii n w hn, fun e => ?_, fun e => ?_⟩
      · rw [show inS (⟨n, hn⟩ : Fin 128).val = inS n from rfl, e] at ht
        simp at ht
        omega
      · rw [show inS (⟨n, hn⟩ : Fin 128).val = inS n from rfl, e] at ht
        simp at ht
        omega
  obtain ⟨c, hC, h1, h2⟩ := hC
  by_cases l97 : 97 ≤ r ∧ r ≤ 122
  · exact law_l97 r w l97.1 l97.2
  by_cases l65 : 65 ≤ r ∧ r ≤ 90
  · exact law_l65 r w l65.1 l65.2
  by_cases l48 : 48 ≤ r ∧ r ≤ 57
  · exact law_l48 r w l48.1 l48.2
  cases c
  · have h2 := h2 rfl
    clear h1
    by_cases n0 : r ≤ 32
    · exact law_n0 r w n0 hC
    by_cases n34 : 34 ≤ r ∧ r ≤ 35
    · exact law_n34 r w n34.1 n34.2 hC
    by_cases n60 : 60 ≤ r ∧ r ≤ 60
    · exact law_n60 r w n60.1 n60.2 hC
    by_cases n62 : 62 ≤ r ∧ r ≤ 63
    · exact law_n62 r w n62.1 n62.2 hC
    by_cases n91 : 91 ≤ r ∧ r ≤ 94
    · exact law_n91 r w n91.1 n91.2 hC
    by_cases n96 : 96 ≤ r ∧ r ≤ 96
    · exact law_n96 r w n96.1 n96.2 hC
    by_cases n123 : 123 ≤ r ∧ r ≤ 125
    · exact law_n123 r w n123.1 n123.2 hC
    exact law_n127 r w (by omega) hC
  · have h1 := h1 rfl
    clear h2
    by_cases y33 : 33 ≤ r ∧ r ≤ 33
    · exact law_y33 r w y33.1 y33.2 hC
    by_cases y36 : 36 ≤ r ∧ r ≤ 47
    · exact law_y36 r w y36.1 y36.2 hC
    by_cases y58 : 58 ≤ r ∧ r ≤ 59
    · exact law_y58 r w y58.1 y58.2 hC
    by_cases y61 : 61 ≤ r ∧ r ≤ 61
    · exact law_y61 r w y61.1 y61.2 hC
    by_cases y64 : 64 ≤ r ∧ r ≤ 64
    · exact law_y64 r w y64.1 y64.2 hC
    by_cases y95 : 95 ≤ r ∧ r ≤ 95
    · exact law_y95 r w y95.1 y95.2 hC
    exact law_y126 r w (by omega) (by omega) hC

end Go.Proofs.Qxb6601959a.Ir
