import Derived.Test.Qxb6600528aNxZZNext
namespace Go.Proofs.Qxb6600528a.Nx
open Go.RowKit

theorem at_list (b : ByteArray) (i : Nat) (h : i < b.size) : b.data.toList[i]? = some b[i] := by
  rw [List.getElem?_eq_getElem (by simpa using h)]
  rfl

theorem len_list (b : ByteArray) : b.data.toList.length = b.size := by simp

theorem lvl_data (text : ByteArray) (o : Nat) : (lvl text o).data.toList = (text.data.toList.drop o).take (stop text.data.toList o - o) := by
  unfold lvl
  exact Lib.extract_data text o _

theorem lvl_size (text : ByteArray) (o : Nat) (h : o ≤ text.size) : (lvl text o).size = stop text.data.toList o - o := by
  have h2 := stop_le text.data.toList o (by rw [len_list]; exact h)
  rw [len_list] at h2
  unfold lvl
  rw [ByteArray.size_extract]
  omega

/-- No slash in the level. -/
theorem lvl_get (text : ByteArray) (o : Nat) (h : o ≤ text.size) (i : Nat) (hi : i < (lvl text o).size) : (lvl text o)[i] ≠ 47 := by
  have hs := lvl_size text o h
  obtain ⟨c, h1, h2⟩ := stop_in text.data.toList o i (by omega)
  have h3 := at_list (lvl text o) i hi
  rw [lvl_data, List.getElem?_take_of_lt (by omega), List.getElem?_drop, h1] at h3
  have h4 : c = (lvl text o)[i] := Option.some.inj h3
  rw [← h4]
  exact h2

/-- A slash behind the level, or the text's end. -/
theorem lvl_end (text : ByteArray) (o : Nat) (h : stop text.data.toList o < text.size) : text[stop text.data.toList o] = 47 := by
  have h1 := stop_at text.data.toList o (by rw [len_list]; exact h)
  rw [at_list text _ h] at h1
  exact Option.some.inj h1

theorem lvl_hash (text : ByteArray) (o : Nat) (h : o ≤ text.size) (hv : (lvl text o).toList = [35]) :
    ∃ h1 : o < text.size, text[o] = 35 ∧ stop text.data.toList o = o + 1 := by
  have hs := lvl_size text o h
  rw [Lib.toList_data] at hv
  have hl : (lvl text o).size = 1 := by rw [← len_list, hv]; rfl
  have h2 := stop_le text.data.toList o (by rw [len_list]; exact h)
  rw [len_list] at h2
  have h1 : o < text.size := by omega
  refine ⟨h1, ?_, by omega⟩
  have e : (text.data.toList.drop o).take (stop text.data.toList o - o) = [35] := by rw [← lvl_data]; exact hv
  have e0 : ((text.data.toList.drop o).take (stop text.data.toList o - o))[0]? = some 35 := by rw [e]; rfl
  rw [List.getElem?_take_of_lt (by omega), List.getElem?_drop, Nat.add_zero, at_list text o h1] at e0
  exact Option.some.inj e0

/-- All that the laws ask of a level. -/
theorem lvl_pack (text : ByteArray) (off : Nat) (hle : off ≤ text.size) : stop text.data.toList off = off + (lvl text off).size ∧ off + (lvl text off).size ≤ text.size ∧ text.extract off (off + (lvl text off).size) = lvl text off ∧
    (∀ (i : Nat) (h : i < (lvl text off).size), ((((lvl text off)[i].toNat : Nat) : Int) == 47) = false) ∧ ∀ h : off + (lvl text off).size < text.size, (((text[off + (lvl text off).size].toNat : Nat) : Int) != 47) = false := by
  have hs := lvl_size text off hle
  have h1 := stop_ge text.data.toList off
  have h2 := stop_le text.data.toList off (by rw [len_list]; exact hle)
  rw [len_list] at h2
  have e : stop text.data.toList off = off + (lvl text off).size := by omega
  refine ⟨e, by omega, ?_, ?_, ?_⟩
  · rw [← e]; rfl
  · intro i h
    have := lvl_get text off hle i h
    rw [beq_eq_false_iff_ne]
    intro h3
    apply this
    apply UInt8.toNat_inj.1
    have h4 : (47 : UInt8).toNat = 47 := rfl
    omega
  · intro h
    have h5 := lvl_end text off (by omega)
    have h6 : text[off + (lvl text off).size] = 47 := by
      simpa [e] using h5
    rw [h6]
    rfl

end Go.Proofs.Qxb6600528a.Nx
