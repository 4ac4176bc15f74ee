import Derived.Test.Qxb6604484aFmtFoKey
import Derived.Stop.CallBack
import Derived.Stop.IfaceNil
import GoSem.ClaimData
namespace Go.Proofs.Qxb6604484aFmt.Fo
open Go.RowKit Go.Extern.Stop Go.Stop Go.Extern
set_option linter.unusedVariables false
set_option maxRecDepth 100000

-- fmt.Sprintf: function 42: a plain stop
@[go_sem] theorem call42 (args : Array Value) (w : World) : (callFunc 42 args).run Tryf.prog w = ((FmtStop.sprintf #[9, 81] #[9] args).run Tryf.prog w).andThen fun v w' => .ok (.value v) w' :=
  run_callFunc_extern Tryf.func42 (by kernel_rfl) (by kernel_rfl) (by kernel_rfl) (by kernel_rfl) args w

@[go_sem] theorem fguard (name : String) (w : World) : (FmtStop.guard name).run Tryf.prog w = .ok () w := by kernel_rfl
-- "want %s, got %s", 2 operands
@[go_sem] theorem fmt2 : FmtStop.printed? ⟨#[119, 97, 110, 116, 32, 37, 115, 44, 32, 103, 111, 116, 32, 37, 115]⟩ 2 = some [(0, 115, false), (1, 115, false)] := by kernel_rfl
@[go_sem] theorem fmt2r (w : World) : (FmtDoors.printed ⟨#[119, 97, 110, 116, 32, 37, 115, 44, 32, 103, 111, 116, 32, 37, 115]⟩ 2).run Tryf.prog w = .ok [(0, 115, false), (1, 115, false)] w := by kernel_rfl
def shape9 : List UInt8 := [12, 6, 0, 0, 0, 0, 0, 0, 0, 115, 116, 114, 105, 110, 103]
@[go_sem] theorem op9_115 (name : String) (x : ByteArray) (w : World) : (FmtStop.operand name false 115 false (.iface 9 (.string x))).run Tryf.prog w = .ok (shape9, FmtStop.pack x.data.toList) w := by kernel_rfl

@[go_sem] theorem as_int_str (iv : Int) (w : World) : (Instr.typeAssert (.iface 2 (.int .i64 iv)) 20 9 true).run Tryf.prog w = .ok (.tuple #[.string ⟨#[]⟩, .bool false]) w := by kernel_rfl
@[go_sem] theorem as_int_int (iv : Int) (w : World) : (Instr.typeAssert (.iface 2 (.int .i64 iv)) 20 2 true).run Tryf.prog w = .ok (.tuple #[.int .i64 iv, .bool true]) w := by kernel_rfl
@[go_sem] theorem as_str_str (s : ByteArray) (w : World) : (Instr.typeAssert (.iface 9 (.string s)) 20 9 true).run Tryf.prog w = .ok (.tuple #[.string s, .bool true]) w := by kernel_rfl
@[go_sem] theorem as_nil_key (w : World) : (Instr.typeAssert .nilIface 55 52 true).run Tryf.prog w = .ok (.tuple #[.pointer none, .bool false]) w := by kernel_rfl
@[go_sem] theorem as_key_key (p : Value) (w : World) : (Instr.typeAssert (.iface 52 p) 55 52 true).run Tryf.prog w = .ok (.tuple #[p, .bool true]) w := by kernel_rfl

set_option maxHeartbeats 1600000 in
theorem typeName_int (iv : Int) (w : World) :
    Calls Tryf.prog 43 #[.iface 2 (.int .i64 iv)] w fun e w' => e = .returned (.string ⟨#[97, 110, 32, 105, 110, 116, 101, 103, 101, 114]⟩) ∧ w' = w := by
  go_enter Tryf.func43, Tryf.ntmps43
  go_wp2
  first | go_ret | (rw [Exit.noGoto_ret]; go_ret)
  exact ⟨rfl, rfl⟩

/-- What fmt gives. -/
def wtText (F : Interp) : ByteArray := FmtStop.textOf (F "fmt.Sprintf" [[119, 97, 110, 116, 32, 37, 115, 44, 32, 103, 111, 116, 32, 37, 115], shape9, FmtStop.pack [97, 32, 115, 116, 114, 105, 110, 103], shape9, FmtStop.pack [97, 110, 32, 105, 110, 116, 101, 103, 101, 114]] 0)

set_option maxHeartbeats 1600000 in
theorem wrongType (F : Interp) (key k : ByteArray) (iv : Int) (b : Nat) (w : World) (hF : F.answers w.tape) (h1 : key.size ≤ 65536) (h2 : k.size ≤ 65536) (hc : w.cell? ⟨b, 1, none⟩ = some (.string key)) :
    Calls Tryf.prog 36 #[.pointer (some ⟨b, 0, none⟩), .string k, .string ⟨#[97, 32, 115, 116, 114, 105, 110, 103]⟩, .iface 2 (.int .i64 iv)] w fun e w' => ∃ q msg, e = .returned (.iface 52 (.pointer (some ⟨q, 0, none⟩))) ∧ w'.cell? ⟨q, 0, none⟩ = some (.string (full key k)) ∧ w'.cell? ⟨q, 1, none⟩ = some (.string msg) ∧ Below w.heap.size w w' := by
  have hF' := answers_open hF
  have HP : Hid (Calls Tryf.prog 33 #[.pointer (some ⟨b, 0, none⟩), .string k] w fun e w' => e = .returned (.string (full key k)) ∧ w' = w) := path key k b w h1 h2 hc
  have HT : Hid (∀ w, Calls Tryf.prog 43 #[.iface 2 (.int .i64 iv)] w fun e w' => e = .returned (.string ⟨#[97, 110, 32, 105, 110, 116, 101, 103, 101, 114]⟩) ∧ w' = w) := typeName_int iv
  obtain ⟨R, hR⟩ : ∃ R, full key k = R := ⟨_, rfl⟩
  rw [hR] at HP ⊢
  clear hR hF h1 h2 hc
  go_enter Tryf.func36, Tryf.ntmps36
  go_wp2_with (first | (go_at_call 33; refine HP.out.mono ?_; rintro e w' ⟨rfl, rfl⟩) | (go_at_call 43; refine (HT.out _).mono ?_; rintro e w' ⟨rfl, rfl⟩))
  go_ret

  refine ⟨_, wtText F, rfl, by go_simp, by unfold wtText; go_simp, ?_⟩
  exact ((((Below.refl _ _).alloc (Nat.le_refl _) _).alloc (by simp) _)).trans ⟨rfl, rfl, rfl, Nat.le_refl _, fun _ _ => rfl⟩

end Go.Proofs.Qxb6604484aFmt.Fo
