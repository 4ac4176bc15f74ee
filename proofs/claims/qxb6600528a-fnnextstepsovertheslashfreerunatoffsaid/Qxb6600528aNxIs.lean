import Derived.Test.Qxb6600528aNxFacts
namespace Go.Proofs.Qxb6600528a.Nx

/-- Every entry with a topic has an answer. -/
theorem nextIs_ex (text : ByteArray) (lit : Bool) (s e : List Int) (m off : Nat) : ∃ L W K, ∃ D : Int, NextIs text lit s e m off L W K D := by
  by_cases h : text.size < off
  · exact ⟨_, _, _, _, .inl ⟨by omega, rfl, rfl, rfl, rfl⟩⟩
  · cases lit
    · by_cases hv : (lvl text off).toList = [35]
      · exact ⟨_, _, _, _, .inr ⟨off, rfl, by omega, .inr (.inl ⟨rfl, hv, rfl, rfl, rfl, rfl⟩)⟩⟩
      · exact ⟨_, _, _, _, .inr ⟨off, rfl, by omega, .inr (.inr ⟨rfl, hv, rfl, rfl, rfl, rfl⟩)⟩⟩
    · exact ⟨_, _, _, _, .inr ⟨off, rfl, by omega, .inl ⟨rfl, rfl, rfl, rfl, rfl⟩⟩⟩

end Go.Proofs.Qxb6600528a.Nx
