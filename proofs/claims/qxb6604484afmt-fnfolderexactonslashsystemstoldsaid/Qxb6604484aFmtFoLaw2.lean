import Derived.Test.Qxb6604484aFmtFoLaw
namespace Go.Proofs.Qxb6604484aFmt.Fo
open Go.RowKit Go.Extern.Stop Go.Stop Go.Extern
set_option linter.unusedVariables false
set_option maxRecDepth 100000

set_option maxHeartbeats 1600000 in
/-- An integer is held. -/
theorem law_int (F : Interp) (key base sk sv ik : ByteArray) (iv : Int) (w : World) (hF : F.answers w.tape)
    (h1 : key.size ≤ 65536) (h2 : base.size ≤ 65536) (h3 : sk.size ≤ 65536) (h4 : sv.size ≤ 65536) (h5 : ik.size ≤ 65536) :
    Calls Tryf.prog 6 #[.string key, .string base, .string sk, .string sv, .string ik, .int .i64 iv, .string ik] w fun e w' => e = .returned (.bool true) ∧ Below w.heap.size w w' := by
  have HB : Hid (∀ (Q : Ending → World → Prop), (∀ r : Bool, Q (.returned (.bool r)) w) → Calls Tryf.prog 23 #[.string key, .string base, .string sk, .string sv, .string ik, .int .i64 iv, .string ik] w Q) := bytes_some key base sk sv ik ik iv w
  have HN : Hid (Calls Tryf.prog 24 #[.string key, .string base, .string sk, .string sv, .string ik, .int .i64 iv] w fun e w' =>
      ∃ b m, e = .returned (.pointer (some ⟨b, 0, none⟩)) ∧ Hid (w.heap.size ≤ m) ∧ Hid (Sec b m key base (held sk sv ik iv) w') ∧ Below w.heap.size w w') := new_walk key base sk sv ik iv w h3 h5
  have HZ : Hid (∀ (b m : Nat) (w1 : World), Hid (w.heap.size ≤ m) → Hid (Sec b m key base (held sk sv ik iv) w1) → Below w.heap.size w w1 →
      Calls Tryf.prog 11 #[.pointer (some ⟨b, 0, none⟩), .string ik] w1 fun e w' => ∃ msg, e = .returned (.tuple #[.string ⟨#[]⟩, .bool false, .bool true, .string (full key ik), .string msg]) ∧ Below w.heap.size w w') := by
    intro b m w1 hm S hb
    refine (zz_err w1 m (.pointer (some ⟨b, 0, none⟩)) ik (full key ik) (fun _ => True) ?_).mono ?_
    · refine (folder_int F b m key base sk sv ik iv w1 (by rw [hb.tape]; exact hF) h1 h5 S).mono ?_
      rintro e w' ⟨q, msg, a, c0, c1, c⟩
      exact ⟨q, msg, a, c0, c1, trivial, c⟩
    · rintro e w' ⟨msg, a, _, c⟩
      exact ⟨msg, a, hb.trans (c.mono hm)⟩
  have HK : Hid (∀ w, Calls Tryf.prog 22 #[.string key, .string ik] w fun e w' => e = .returned (.string (full key ik)) ∧ w' = w) := fun w => fullKey key ik w h1 h5
  obtain ⟨R, hR⟩ : ∃ R, full key ik = R := ⟨_, rfl⟩
  rw [hR] at HZ HK
  clear hR hF
  go_enter Tryf.func6, Tryf.ntmps6
  go_wp2_with (first | (go_at_call 23; refine HB.out _ ?_; intro r; cases r) | (go_at_call 24; refine HN.out.mono ?_; rintro e w1 ⟨b, m, rfl, hm, S, hb⟩) | (go_at_call 11; refine (HZ.out b m _ hm S hb).mono ?_; rintro e w2 ⟨msg, rfl, hb2⟩) | (go_at_call 22; refine (HK.out _).mono ?_; rintro e w3 ⟨rfl, rfl⟩))
  · go_ret
    exact ⟨rfl, Below.refl _ _⟩
  · go_ret
    exact ⟨rfl, hb2⟩

theorem str_ne {a b : ByteArray} (h : a ≠ b) : (a.toList == b.toList) = false := by
  rw [beq_eq_false_iff_ne, ByteArray.toList_eq, ByteArray.toList_eq]
  exact fun e => h (WideShapes.bytes_inj e)

set_option maxHeartbeats 1600000 in
/-- Nothing is held. -/
theorem law_none (key base sk sv ik k : ByteArray) (iv : Int) (w : World) (hne : k ≠ ik) (hne' : k ≠ sk)
    (h1 : key.size ≤ 65536) (h2 : base.size ≤ 65536) (h3 : sk.size ≤ 65536) (h4 : sv.size ≤ 65536) (h5 : ik.size ≤ 65536) (h6 : k.size ≤ 65536) :
    Calls Tryf.prog 6 #[.string key, .string base, .string sk, .string sv, .string ik, .int .i64 iv, .string k] w fun e w' => e = .returned (.bool true) ∧ Below w.heap.size w w' := by
  have HB : Hid (∀ (Q : Ending → World → Prop), (∀ r : Bool, Q (.returned (.bool r)) w) → Calls Tryf.prog 23 #[.string key, .string base, .string sk, .string sv, .string ik, .int .i64 iv, .string k] w Q) := bytes_some key base sk sv ik k iv w
  have HN : Hid (Calls Tryf.prog 24 #[.string key, .string base, .string sk, .string sv, .string ik, .int .i64 iv] w fun e w' =>
      ∃ b m, e = .returned (.pointer (some ⟨b, 0, none⟩)) ∧ Hid (w.heap.size ≤ m) ∧ Hid (Sec b m key base (held sk sv ik iv) w') ∧ Below w.heap.size w w') := new_walk key base sk sv ik iv w h3 h5
  have HZ : Hid (∀ (b m : Nat) (w1 : World), Hid (w.heap.size ≤ m) → Hid (Sec b m key base (held sk sv ik iv) w1) → Below w.heap.size w w1 →
      Calls Tryf.prog 11 #[.pointer (some ⟨b, 0, none⟩), .string k] w1 fun e w' => e = .returned (.tuple #[.string ⟨#[]⟩, .bool false, .bool true, .string (full key k), .string ⟨#[114, 101, 113, 117, 105, 114, 101, 100]⟩]) ∧ Below w.heap.size w w') := by
    intro b m w1 hm S hb
    refine (zz_err w1 m (.pointer (some ⟨b, 0, none⟩)) k (full key k) (fun x => x = req) ?_).mono ?_
    · refine (folder_none b m key base sk sv ik k iv w1 h1 h6 hne hne' S).mono ?_
      rintro e w' ⟨q, a, c0, c1, c⟩
      exact ⟨q, req, a, c0, c1, rfl, c⟩
    · rintro e w' ⟨msg, a, rfl, c⟩
      exact ⟨a, hb.trans (c.mono hm)⟩
  have HK : Hid (∀ w, Calls Tryf.prog 22 #[.string key, .string k] w fun e w' => e = .returned (.string (full key k)) ∧ w' = w) := fun w => fullKey key k w h1 h6
  obtain ⟨R, hR⟩ : ∃ R, full key k = R := ⟨_, rfl⟩
  rw [hR] at HZ HK
  have t1 := str_ne hne
  have t2 := str_ne hne'
  clear hR hne hne'
  go_enter Tryf.func6, Tryf.ntmps6
  go_wp2_with (first | (go_at_call 23; refine HB.out _ ?_; intro r; cases r) | (go_at_call 24; refine HN.out.mono ?_; rintro e w1 ⟨b, m, rfl, hm, S, hb⟩) | (go_at_call 11; refine (HZ.out b m _ hm S hb).mono ?_; rintro e w2 ⟨rfl, hb2⟩) | (go_at_call 22; refine (HK.out _).mono ?_; rintro e w3 ⟨rfl, rfl⟩))
  · go_ret
    exact ⟨rfl, Below.refl _ _⟩
  · go_ret
    exact ⟨rfl, hb2⟩

end Go.Proofs.Qxb6604484aFmt.Fo
