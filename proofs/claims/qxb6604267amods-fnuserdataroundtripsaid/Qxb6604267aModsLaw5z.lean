import Derived.Test.Qxb6604267aModsText
namespace Go.Proofs.Qxb6604267aMods.Law5
open Go.RowKit
open Ud Rd Txt

theorem nil_of {a : ByteArray} (h : a.toList.isEmpty = true) : a = ⟨#[]⟩ := by
  rw [ByteArray.toList_eq] at h
  obtain ⟨⟨l⟩⟩ := a
  simp at h
  subst h; rfl

set_option maxHeartbeats 1000000 in
theorem zz_yes (t a b c d e : ByteArray) (h : (t.size : Int) + a.size + b.size + c.size + d.size + e.size ≤ 1048576) (w : World) :
    Calls Trym.prog 13 #[.string t, .string a, .string b, .string c, .string d, .string e] w fun z w' => z = .returned (.bool true) ∧ w' = w := by
  go_enter Trym.func13, Trym.ntmps13
  go_wp2
  go_ret
  exact ⟨rfl, rfl⟩
set_option maxHeartbeats 1000000 in
theorem zz_no (t a b c d e : ByteArray) (h : (1048576 : Int) < (t.size : Int) + a.size + b.size + c.size + d.size + e.size) (w : World) :
    Calls Trym.prog 13 #[.string t, .string a, .string b, .string c, .string d, .string e] w fun z w' => z = .returned (.bool false) ∧ w' = w := by
  go_enter Trym.func13, Trym.ntmps13
  go_wp2
  all_goals first | (exfalso; omega) | (go_ret; exact ⟨rfl, rfl⟩)

set_option maxRecDepth 100000 in
set_option maxHeartbeats 2000000 in
theorem zero (t : ByteArray) (ht : (t.size : Int) ≤ 65536) (w : World) :
    Calls Trym.prog 5 #[.string t, .string ⟨#[]⟩, .string ⟨#[]⟩, .string ⟨#[]⟩, .string ⟨#[]⟩, .string ⟨#[]⟩] w fun e w' => e = .returned (.bool true) ∧ Grown w w' := by
  have h0 : ((⟨#[]⟩ : ByteArray).size : Int) = 0 := rfl
  have HZ := zz_yes t ⟨#[]⟩ ⟨#[]⟩ ⟨#[]⟩ ⟨#[]⟩ ⟨#[]⟩ (by omega)
  have HT := table_ok t ht
  have HQa := quote_ok ⟨#[]⟩ (by omega)
  have HQb := quote_ok ⟨#[]⟩ (by omega)
  have HQc := quote_ok ⟨#[]⟩ (by omega)
  have HQd := quote_ok ⟨#[]⟩ (by omega)
  have HQe := quote_ok ⟨#[]⟩ (by omega)
  obtain ⟨X, HC, HR⟩ : ∃ X : ByteArray, (∀ w, Calls Trym.prog 17 #[.string t, .agg #[.string ⟨#[]⟩, .string ⟨#[]⟩, .string ⟨#[]⟩, .string ⟨#[]⟩, .string ⟨#[]⟩]] w fun e w' => e = .returned (.string X) ∧ Grown w w') ∧
      Hid (Tidy t.data.toList → ∀ (sc : ByteArray) (w : World), Calls Trym.prog 16 #[.string X, .string sc] w fun e w' => e = .returned (.agg #[.string t, .string ⟨#[]⟩, .string ⟨#[]⟩, .string ⟨#[]⟩, .string ⟨#[]⟩, .string ⟨#[]⟩, .bool false, .bool true]) ∧ Grown w w') :=
    ⟨_, zud_zero t ht, fun h sc w => back0 t ht h sc w⟩
  clear h0
  go_enter Trym.func5, Trym.ntmps5
  go_wp2_with fail
  refine (HZ _).mono ?_
  rintro z w1 ⟨rfl, rfl⟩
  clear HZ
  go_wp2_with fail
  refine (HT _).mono ?_
  rintro z w1 ⟨v, rfl, hv, rfl⟩
  clear HT
  cases v with
  | false =>
    clear hv
    go_wp2_with fail
    go_ret
    exact ⟨rfl, Grown.refl _⟩
  | true =>
    have ht := hv rfl
    clear hv
    have HTI : Hid (Tidy t.data.toList) := ht
    clear ht
    go_wp2_with fail
    refine (HQa _).mono ?_
    rintro z w1 ⟨v, rfl, hv, rfl⟩
    clear HQa
    cases v with
    | true =>
      clear hv
      go_wp2_with fail
      go_ret
      exact ⟨rfl, Grown.refl _⟩
    | false =>
      have Qa : Hid (39 ∉ (⟨#[]⟩ : ByteArray).data.toList) := hv rfl
      clear hv
      go_wp2_with fail
      refine (HQb _).mono ?_
      rintro z w1 ⟨v, rfl, hv, rfl⟩
      clear HQb
      cases v with
      | true =>
        clear hv
        go_wp2_with fail
        go_ret
        exact ⟨rfl, Grown.refl _⟩
      | false =>
        have Qb : Hid (39 ∉ (⟨#[]⟩ : ByteArray).data.toList) := hv rfl
        clear hv
        go_wp2_with fail
        refine (HQc _).mono ?_
        rintro z w1 ⟨v, rfl, hv, rfl⟩
        clear HQc
        cases v with
        | true =>
          clear hv
          go_wp2_with fail
          go_ret
          exact ⟨rfl, Grown.refl _⟩
        | false =>
          have Qc : Hid (39 ∉ (⟨#[]⟩ : ByteArray).data.toList) := hv rfl
          clear hv
          go_wp2_with fail
          refine (HQd _).mono ?_
          rintro z w1 ⟨v, rfl, hv, rfl⟩
          clear HQd
          cases v with
          | true =>
            clear hv
            go_wp2_with fail
            go_ret
            exact ⟨rfl, Grown.refl _⟩
          | false =>
            have Qd : Hid (39 ∉ (⟨#[]⟩ : ByteArray).data.toList) := hv rfl
            clear hv
            go_wp2_with fail
            refine (HQe _).mono ?_
            rintro z w1 ⟨v, rfl, hv, rfl⟩
            clear HQe
            cases v with
            | true =>
              clear hv
              go_wp2_with fail
              go_ret
              exact ⟨rfl, Grown.refl _⟩
            | false =>
              have Qe : Hid (39 ∉ (⟨#[]⟩ : ByteArray).data.toList) := hv rfl
              clear hv
              go_wp2_with fail
              refine (HC _).mono ?_
              rintro z w2 ⟨rfl, hg2⟩
              clear HC
              go_wp2_with fail
              refine (HR.out HTI.out _ _).mono ?_
              rintro z w3 ⟨rfl, hg3⟩
              clear HR
              go_wp2_with fail
              go_ret
              exact ⟨Ud.ret_bool (by simp), grown_trans (grown_trans ((Grown.refl _).alloc _ _) (grown_trans hg2 hg3)) ((Grown.refl _).alloc _ _)⟩
end Go.Proofs.Qxb6604267aMods.Law5
