import Derived.Test.Qxb6604484aFmtFoLaw2
namespace Go.Proofs.Qxb6604484aFmt.Fo
open Go.RowKit Go.Extern.Stop Go.Stop Go.Extern
set_option linter.unusedVariables false
set_option maxRecDepth 100000

set_option maxHeartbeats 1600000 in
/-- An empty text is held. -/
theorem law_empty (key base sk sv ik : ByteArray) (iv : Int) (w : World) (hne : sk ≠ ik) (hz : sv.size = 0)
    (h1 : key.size ≤ 65536) (h2 : base.size ≤ 65536) (h3 : sk.size ≤ 65536) (h4 : sv.size ≤ 65536) (h5 : ik.size ≤ 65536) :
    Calls Tryf.prog 6 #[.string key, .string base, .string sk, .string sv, .string ik, .int .i64 iv, .string sk] w fun e w' => e = .returned (.bool true) ∧ Below w.heap.size w w' := by
  have HB : Hid (∀ (Q : Ending → World → Prop), (∀ r : Bool, Q (.returned (.bool r)) w) → Calls Tryf.prog 23 #[.string key, .string base, .string sk, .string sv, .string ik, .int .i64 iv, .string sk] w Q) := bytes_some key base sk sv ik sk iv w
  have HN : Hid (Calls Tryf.prog 24 #[.string key, .string base, .string sk, .string sv, .string ik, .int .i64 iv] w fun e w' =>
      ∃ b m, e = .returned (.pointer (some ⟨b, 0, none⟩)) ∧ Hid (w.heap.size ≤ m) ∧ Hid (Sec b m key base (held sk sv ik iv) w') ∧ Below w.heap.size w w') := new_walk key base sk sv ik iv w h3 h5
  have HZ : Hid (∀ (b m : Nat) (w1 : World), Hid (w.heap.size ≤ m) → Hid (Sec b m key base (held sk sv ik iv) w1) → Below w.heap.size w w1 →
      Calls Tryf.prog 11 #[.pointer (some ⟨b, 0, none⟩), .string sk] w1 fun e w' => e = .returned (.tuple #[.string ⟨#[]⟩, .bool false, .bool true, .string (full key sk), .string ⟨#[114, 101, 113, 117, 105, 114, 101, 100]⟩]) ∧ Below w.heap.size w w') := by
    intro b m w1 hm S hb
    refine (zz_err w1 m (.pointer (some ⟨b, 0, none⟩)) sk (full key sk) (fun x => x = req) ?_).mono ?_
    · refine (folder_empty b m key base sk sv ik iv w1 h1 h3 hne hz S).mono ?_
      rintro e w' ⟨q, a, c0, c1, c⟩
      exact ⟨q, req, a, c0, c1, rfl, c⟩
    · rintro e w' ⟨msg, a, rfl, c⟩
      exact ⟨a, hb.trans (c.mono hm)⟩
  have HK : Hid (∀ w, Calls Tryf.prog 22 #[.string key, .string sk] w fun e w' => e = .returned (.string (full key sk)) ∧ w' = w) := fun w => fullKey key sk w h1 h3
  obtain ⟨R, hR⟩ : ∃ R, full key sk = R := ⟨_, rfl⟩
  rw [hR] at HZ HK
  have t1 := str_ne hne
  have t2 : sv.toList.isEmpty = true := by rw [isE]; exact decide_eq_true hz
  clear hR hne hz
  go_enter Tryf.func6, Tryf.ntmps6
  go_wp2_with (first | (go_at_call 23; refine HB.out _ ?_; intro r; cases r) | (go_at_call 24; refine HN.out.mono ?_; rintro e w1 ⟨b, m, rfl, hm, S, hb⟩) | (go_at_call 11; refine (HZ.out b m _ hm S hb).mono ?_; rintro e w2 ⟨rfl, hb2⟩) | (go_at_call 22; refine (HK.out _).mono ?_; rintro e w3 ⟨rfl, rfl⟩))
  · go_ret
    exact ⟨rfl, Below.refl _ _⟩
  · go_ret
    exact ⟨rfl, hb2⟩

set_option maxHeartbeats 1600000 in
/-- A text is held. -/
theorem law_ok (key base sk sv ik : ByteArray) (iv : Int) (w : World) (hne : sk ≠ ik) (hz : 0 < sv.size)
    (h1 : key.size ≤ 65536) (h2 : base.size ≤ 65536) (h3 : sk.size ≤ 65536) (h4 : sv.size ≤ 65536) (h5 : ik.size ≤ 65536) :
    Calls Tryf.prog 6 #[.string key, .string base, .string sk, .string sv, .string ik, .int .i64 iv, .string sk] w fun e w' => e = .returned (.bool true) ∧ Below w.heap.size w w' := by
  have HB : Hid (∀ (Q : Ending → World → Prop), (∀ r : Bool, Q (.returned (.bool r)) w) → Calls Tryf.prog 23 #[.string key, .string base, .string sk, .string sv, .string ik, .int .i64 iv, .string sk] w Q) := bytes_some key base sk sv ik sk iv w
  have HN : Hid (Calls Tryf.prog 24 #[.string key, .string base, .string sk, .string sv, .string ik, .int .i64 iv] w fun e w' =>
      ∃ b m, e = .returned (.pointer (some ⟨b, 0, none⟩)) ∧ Hid (w.heap.size ≤ m) ∧ Hid (Sec b m key base (held sk sv ik iv) w') ∧ Below w.heap.size w w') := new_walk key base sk sv ik iv w h3 h5
  have HZ : Hid (∀ (b m : Nat) (w1 : World), Hid (w.heap.size ≤ m) → Hid (Sec b m key base (held sk sv ik iv) w1) → Below w.heap.size w w1 →
      Calls Tryf.prog 11 #[.pointer (some ⟨b, 0, none⟩), .string sk] w1 fun e w' => e = .returned (.tuple #[.string (resolved base sv), .bool true, .bool false, .string ⟨#[]⟩, .string ⟨#[]⟩]) ∧ Below w.heap.size w w') := by
    intro b m w1 hm S hb
    refine (zz_ok w1 m (.pointer (some ⟨b, 0, none⟩)) sk (resolved base sv) ?_).mono ?_
    · exact folder_ok b m key base sk sv ik iv w1 h2 h3 h4 hne hz S
    · rintro e w' ⟨a, c⟩
      exact ⟨a, hb.trans (c.mono hm)⟩
  have HK : Hid (∀ w, Calls Tryf.prog 22 #[.string key, .string sk] w fun e w' => e = .returned (.string (full key sk)) ∧ w' = w) := fun w => fullKey key sk w h1 h3
  have HR : Hid (∀ w2 : World, Below w.heap.size w w2 → Calls Tryf.prog 25 #[.string base, .string sv] w2 fun e w' => e = .returned (.string (resolved base sv)) ∧ Below w.heap.size w w') := by
    intro w2 hb
    refine (resolve base sv w2 h2 h4 hz).mono ?_
    rintro e w' ⟨a, c⟩
    exact ⟨a, hb.trans (c.mono hb.size)⟩
  obtain ⟨R, hR⟩ : ∃ R, full key sk = R := ⟨_, rfl⟩
  obtain ⟨T, hT⟩ : ∃ T, resolved base sv = T := ⟨_, rfl⟩
  rw [hR] at HK
  rw [hT] at HZ HR
  have t1 := str_ne hne
  have t2 : sv.toList.isEmpty = false := by rw [isE]; exact decide_eq_false (by omega)
  clear hR hT hne hz
  go_enter Tryf.func6, Tryf.ntmps6
  go_wp2_with (first | (go_at_call 23; refine HB.out _ ?_; intro r; cases r) | (go_at_call 24; refine HN.out.mono ?_; rintro e w1 ⟨b, m, rfl, hm, S, hb⟩) | (go_at_call 11; refine (HZ.out b m _ hm S hb).mono ?_; rintro e w2 ⟨rfl, hb2⟩) | (go_at_call 22; refine (HK.out _).mono ?_; rintro e w3 ⟨rfl, rfl⟩) | (go_at_call 25; refine (HR.out _ hb2).mono ?_; rintro e w4 ⟨rfl, hb4⟩))
  · go_ret
    exact ⟨rfl, Below.refl _ _⟩
  · go_ret
    exact ⟨rfl, hb4⟩

/-- THE LAW, whatever the input. -/
theorem law (F : Interp) (key base sk sv ik k : ByteArray) (iv : Int) (w : World) (hF : F.answers w.tape) :
    Calls Tryf.prog 6 #[.string key, .string base, .string sk, .string sv, .string ik, .int .i64 iv, .string k] w fun e w' => e = .returned (.bool true) ∧ Below w.heap.size w w' := by
  by_cases h : 65536 < key.size ∨ 65536 < base.size ∨ 65536 < sk.size ∨ 65536 < sv.size ∨ 65536 < ik.size ∨ 65536 < k.size
  · refine (law_long key base sk sv ik k iv w h).mono ?_
    rintro e w' ⟨a, rfl⟩
    exact ⟨a, Below.refl _ _⟩
  by_cases hk : k = ik
  · subst hk
    exact law_int F key base sk sv k iv w hF (by omega) (by omega) (by omega) (by omega) (by omega)
  by_cases hs : k = sk
  · subst hs
    by_cases hz : sv.size = 0
    · exact law_empty key base k sv ik iv w hk hz (by omega) (by omega) (by omega) (by omega) (by omega)
    · exact law_ok key base k sv ik iv w hk (by omega) (by omega) (by omega) (by omega) (by omega) (by omega)
  · exact law_none key base sk sv ik k iv w hk hs (by omega) (by omega) (by omega) (by omega) (by omega) (by omega)

end Go.Proofs.Qxb6604484aFmt.Fo
