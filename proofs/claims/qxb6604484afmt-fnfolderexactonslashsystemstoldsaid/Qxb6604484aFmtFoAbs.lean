import Derived.Test.Qxb6604484aFmtFoKey
namespace Go.Proofs.Qxb6604484aFmt.Fo
open Go.RowKit Go.Lib
set_option linter.unusedVariables false

theorem fjoin_two (base v : ByteArray) (h3 : 0 < v.size) (hs : v.data.toList.head? ≠ some 47) : (⟨(Pa.fjoin [base.data.toList, v.data.toList]).toArray⟩ : ByteArray) = resolved base v := by
  have hv : v.data.toList.isEmpty = false := by
    cases v with | mk d => cases d with | mk l => cases l with
      | nil => simp [ByteArray.size] at h3
      | cons x r => rfl
  unfold resolved whole Pa.fjoin
  by_cases hb : base.size = 0
  · rw [if_pos (Or.inr hb), size_zero hb]
    have e : List.dropWhile List.isEmpty [(⟨#[]⟩ : ByteArray).data.toList, v.data.toList] = [v.data.toList] := by
      rw [List.dropWhile_cons_of_pos rfl, List.dropWhile_cons_of_neg (by rw [hv]; simp)]
    rw [e, if_neg (by simp)]
    show ByteArray.mk (Pa.clean (Lib.join [v.data.toList] [47])).toArray = _
    rw [Pa.clean_eq_cleanEls]
    simp [Lib.join]
  · have hno : ¬ (v.data.toList.head? = some 47 ∨ base.size = 0) := fun h => h.elim hs hb
    rw [if_neg hno]
    have hbe : base.data.toList.isEmpty = false := by
      cases base with | mk d => cases d with | mk l => cases l with
        | nil => simp [ByteArray.size] at hb
        | cons x r => rfl
    have e : List.dropWhile List.isEmpty [base.data.toList, v.data.toList] = [base.data.toList, v.data.toList] := by
      rw [List.dropWhile_cons_of_neg (by rw [hbe]; simp)]
    rw [e, if_neg (by simp), Pa.clean_eq_cleanEls]
    simp [Lib.join, slash]

set_option maxHeartbeats 1600000 in
theorem absolute (base v : ByteArray) (w : World) (h1 : base.size ≤ 65536) (h2 : v.size ≤ 65536) (h3 : 0 < v.size) :
    Calls Tryf.prog 34 #[.string base, .string v] w fun e w' => e = .returned (.string (resolved base v)) ∧ Below w.heap.size w w' := by
  by_cases hs : v.data.toList.head? = some 47
  · have HA : Hid (∀ w, Calls Tryf.prog 39 #[.string v] w fun e w' => e = .returned (.bool true) ∧ w' = w) := by
      have e : Pa.isAbs v.data.toList = true := by unfold Pa.isAbs; rw [hs]; rfl
      rw [← e]
      exact fun w => Tryf.filepath_IsAbs v w
    have HC : Hid (∀ w, Calls Tryf.prog 40 #[.string v] w fun e w' => e = .returned (.string (resolved base v)) ∧ Below w.heap.size w w') := by
      have e : resolved base v = ⟨(Go.Lib.Pa.cleanEls v.data.toList).toArray⟩ := by unfold resolved whole; rw [if_pos (Or.inl hs)]
      rw [e]
      exact fun w => Tryf.filepath_Clean_rules v w (by omega)
    obtain ⟨R, hR⟩ : ∃ R, resolved base v = R := ⟨_, rfl⟩
    rw [hR] at HC ⊢
    clear hR hs
    go_enter Tryf.func34, Tryf.ntmps34
    go_wp2_with (first | (go_at_call 39; refine (HA.out _).mono ?_; rintro e w' ⟨rfl, rfl⟩) | (go_at_call 40; refine (HC.out _).mono ?_; rintro e w' ⟨rfl, hg⟩))
    go_ret
    exact ⟨rfl, hg⟩
  · have HA : Hid (∀ w, Calls Tryf.prog 39 #[.string v] w fun e w' => e = .returned (.bool false) ∧ w' = w) := by
      have e : Pa.isAbs v.data.toList = false := by unfold Pa.isAbs; rw [beq_eq_false_iff_ne]; exact hs
      rw [← e]
      exact fun w => Tryf.filepath_IsAbs v w
    have HJ : Hid (∀ w : World, Calls Tryf.prog 41 #[.slice (some ⟨w.heap.size, 0, none⟩) 2 2] (w.alloc (.cells #[.string base, .string v] 9)) fun e w' => e = .returned (.string (resolved base v)) ∧ Below w.heap.size w w') := by
      intro w
      have hx := Tryf.filepath_Join w.heap.size 0 2 [base, v] (w.alloc (.cells #[.string base, .string v] 9)) (by
        intro j x hx
        match j, hx with
        | 0, hx => obtain rfl : base = x := by simpa using hx
                   simp
        | 1, hx => obtain rfl : v = x := by simpa using hx
                   simp
        | n + 2, hx => simp at hx) (by simp) (Nat.le_refl _) (by
        have e1 : base.data.toList.length = base.size := rfl
        have e2 : v.data.toList.length = v.size := rfl
        simp [Lib.lens]
        have e3 : base.data.size = base.size := rfl
        have e4 : v.data.size = v.size := rfl
        omega)
      refine hx.mono ?_
      rintro e w' ⟨rfl, hb⟩
      refine ⟨?_, ?_⟩
      · have := fjoin_two base v h3 hs
        rw [← this]
        rfl
      · exact ((Below.refl w.heap.size w).alloc (Nat.le_refl _) _).trans (hb.mono (by simp))
    obtain ⟨R, hR⟩ : ∃ R, resolved base v = R := ⟨_, rfl⟩
    rw [hR] at HJ ⊢
    clear hR hs
    go_enter Tryf.func34, Tryf.ntmps34
    go_wp2_with (first | (go_at_call 39; refine (HA.out _).mono ?_; rintro e w' ⟨rfl, rfl⟩) | (go_at_call 41; refine (HJ.out _).mono ?_; rintro e w' ⟨rfl, hg⟩))
    go_ret
    exact ⟨rfl, hg⟩

end Go.Proofs.Qxb6604484aFmt.Fo
