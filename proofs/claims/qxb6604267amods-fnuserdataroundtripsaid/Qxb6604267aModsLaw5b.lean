import Derived.Test.Qxb6604267aModsLaw5z
namespace Go.Proofs.Qxb6604267aMods.Law5
open Go.RowKit
open Ud Rd Txt

set_option maxRecDepth 100000 in
set_option maxHeartbeats 2000000 in
theorem more2 (t c d e : ByteArray) (ht : (t.size : Int) ≤ 65536) (hc : (c.size : Int) ≤ 65536) (hd : (d.size : Int) ≤ 65536) (he : (e.size : Int) ≤ 65536) (na : c.toList.isEmpty = false) (w : World) :
    Calls Trym.prog 5 #[.string t, .string ⟨#[]⟩, .string ⟨#[]⟩, .string c, .string d, .string e] w fun e w' => e = .returned (.bool true) ∧ Grown w w' := by
  have h0 : ((⟨#[]⟩ : ByteArray).size : Int) = 0 := rfl
  have hz : allNil ⟨#[]⟩ ⟨#[]⟩ c d e = false := by simp [allNil, na]
  have HZ := zz_yes t ⟨#[]⟩ ⟨#[]⟩ c d e (by omega)
  have HT := table_ok t ht
  have HQa := quote_ok ⟨#[]⟩ (by omega)
  have HQb := quote_ok ⟨#[]⟩ (by omega)
  have HQc := quote_ok c (by omega)
  have HQd := quote_ok d (by omega)
  have HQe := quote_ok e (by omega)
  obtain ⟨X, HC, HR⟩ : ∃ X : ByteArray, (∀ w, Calls Trym.prog 17 #[.string t, .agg #[.string ⟨#[]⟩, .string ⟨#[]⟩, .string c, .string d, .string e]] w fun e w' => e = .returned (.string X) ∧ Grown w w') ∧
      Hid (Tidy t.data.toList → 39 ∉ (⟨#[]⟩ : ByteArray).data.toList → 39 ∉ (⟨#[]⟩ : ByteArray).data.toList → 39 ∉ (c : ByteArray).data.toList → 39 ∉ (d : ByteArray).data.toList → 39 ∉ (e : ByteArray).data.toList → ∀ (sc : ByteArray), sc.data.toList = pt Trym.f28 18 → ∀ (w : World), Calls Trym.prog 16 #[.string X, .string sc] w fun z w' => z = .returned (.agg #[.string t, .string ⟨#[]⟩, .string ⟨#[]⟩, .string c, .string d, .string e, .bool true, .bool true]) ∧ Grown w w') :=
    ⟨_, zud_more t ⟨#[]⟩ ⟨#[]⟩ c d e ht (by omega) (by omega) hc hd he hz, fun q0 q1 q2 q3 q4 q5 sc hsc w => back1 t ⟨#[]⟩ ⟨#[]⟩ c d e ht (by omega) (by omega) hc hd he q0 q1 q2 q3 q4 q5 sc hsc w⟩
  clear h0 hz
  go_enter Trym.func5, Trym.ntmps5
  go_wp2_with fail
  refine (HZ _).mono ?_
  rintro z w1 ⟨rfl, rfl⟩
  clear HZ
  go_wp2_with fail
  refine (HT _).mono ?_
  rintro z w1 ⟨v, rfl, hv, rfl⟩
  clear HT
  cases v with
  | false =>
    clear hv
    go_wp2_with fail
    go_ret
    exact ⟨rfl, Grown.refl _⟩
  | true =>
    have ht := hv rfl
    clear hv
    have HTI : Hid (Tidy t.data.toList) := ht
    clear ht
    go_wp2_with fail
    refine (HQa _).mono ?_
    rintro z w1 ⟨v, rfl, hv, rfl⟩
    clear HQa
    cases v with
    | true =>
      clear hv
      go_wp2_with fail
      go_ret
      exact ⟨rfl, Grown.refl _⟩
    | false =>
      have Qa : Hid (39 ∉ (⟨#[]⟩ : ByteArray).data.toList) := hv rfl
      clear hv
      go_wp2_with fail
      refine (HQb _).mono ?_
      rintro z w1 ⟨v, rfl, hv, rfl⟩
      clear HQb
      cases v with
      | true =>
        clear hv
        go_wp2_with fail
        go_ret
        exact ⟨rfl, Grown.refl _⟩
      | false =>
        have Qb : Hid (39 ∉ (⟨#[]⟩ : ByteArray).data.toList) := hv rfl
        clear hv
        go_wp2_with fail
        refine (HQc _).mono ?_
        rintro z w1 ⟨v, rfl, hv, rfl⟩
        clear HQc
        cases v with
        | true =>
          clear hv
          go_wp2_with fail
          go_ret
          exact ⟨rfl, Grown.refl _⟩
        | false =>
          have Qc : Hid (39 ∉ (c : ByteArray).data.toList) := hv rfl
          clear hv
          go_wp2_with fail
          refine (HQd _).mono ?_
          rintro z w1 ⟨v, rfl, hv, rfl⟩
          clear HQd
          cases v with
          | true =>
            clear hv
            go_wp2_with fail
            go_ret
            exact ⟨rfl, Grown.refl _⟩
          | false =>
            have Qd : Hid (39 ∉ (d : ByteArray).data.toList) := hv rfl
            clear hv
            go_wp2_with fail
            refine (HQe _).mono ?_
            rintro z w1 ⟨v, rfl, hv, rfl⟩
            clear HQe
            cases v with
            | true =>
              clear hv
              go_wp2_with fail
              go_ret
              exact ⟨rfl, Grown.refl _⟩
            | false =>
              have Qe : Hid (39 ∉ (e : ByteArray).data.toList) := hv rfl
              clear hv
              go_wp2_with fail
              refine (HC _).mono ?_
              rintro z w2 ⟨rfl, hg2⟩
              clear HC
              go_wp2_with fail
              refine (HR.out HTI.out Qa.out Qb.out Qc.out Qd.out Qe.out _ (by kernel_rfl) _).mono ?_
              rintro z w3 ⟨rfl, hg3⟩
              clear HR
              go_wp2_with fail
              go_ret
              exact ⟨Ud.ret_bool (by simp), grown_trans (grown_trans ((Grown.refl _).alloc _ _) (grown_trans hg2 hg3)) ((Grown.refl _).alloc _ _)⟩

set_option maxRecDepth 100000 in
set_option maxHeartbeats 2000000 in
theorem more3 (t d e : ByteArray) (ht : (t.size : Int) ≤ 65536) (hd : (d.size : Int) ≤ 65536) (he : (e.size : Int) ≤ 65536) (na : d.toList.isEmpty = false) (w : World) :
    Calls Trym.prog 5 #[.string t, .string ⟨#[]⟩, .string ⟨#[]⟩, .string ⟨#[]⟩, .string d, .string e] w fun e w' => e = .returned (.bool true) ∧ Grown w w' := by
  have h0 : ((⟨#[]⟩ : ByteArray).size : Int) = 0 := rfl
  have hz : allNil ⟨#[]⟩ ⟨#[]⟩ ⟨#[]⟩ d e = false := by simp [allNil, na]
  have HZ := zz_yes t ⟨#[]⟩ ⟨#[]⟩ ⟨#[]⟩ d e (by omega)
  have HT := table_ok t ht
  have HQa := quote_ok ⟨#[]⟩ (by omega)
  have HQb := quote_ok ⟨#[]⟩ (by omega)
  have HQc := quote_ok ⟨#[]⟩ (by omega)
  have HQd := quote_ok d (by omega)
  have HQe := quote_ok e (by omega)
  obtain ⟨X, HC, HR⟩ : ∃ X : ByteArray, (∀ w, Calls Trym.prog 17 #[.string t, .agg #[.string ⟨#[]⟩, .string ⟨#[]⟩, .string ⟨#[]⟩, .string d, .string e]] w fun e w' => e = .returned (.string X) ∧ Grown w w') ∧
      Hid (Tidy t.data.toList → 39 ∉ (⟨#[]⟩ : ByteArray).data.toList → 39 ∉ (⟨#[]⟩ : ByteArray).data.toList → 39 ∉ (⟨#[]⟩ : ByteArray).data.toList → 39 ∉ (d : ByteArray).data.toList → 39 ∉ (e : ByteArray).data.toList → ∀ (sc : ByteArray), sc.data.toList = pt Trym.f28 18 → ∀ (w : World), Calls Trym.prog 16 #[.string X, .string sc] w fun z w' => z = .returned (.agg #[.string t, .string ⟨#[]⟩, .string ⟨#[]⟩, .string ⟨#[]⟩, .string d, .string e, .bool true, .bool true]) ∧ Grown w w') :=
    ⟨_, zud_more t ⟨#[]⟩ ⟨#[]⟩ ⟨#[]⟩ d e ht (by omega) (by omega) (by omega) hd he hz, fun q0 q1 q2 q3 q4 q5 sc hsc w => back1 t ⟨#[]⟩ ⟨#[]⟩ ⟨#[]⟩ d e ht (by omega) (by omega) (by omega) hd he q0 q1 q2 q3 q4 q5 sc hsc w⟩
  clear h0 hz
  go_enter Trym.func5, Trym.ntmps5
  go_wp2_with fail
  refine (HZ _).mono ?_
  rintro z w1 ⟨rfl, rfl⟩
  clear HZ
  go_wp2_with fail
  refine (HT _).mono ?_
  rintro z w1 ⟨v, rfl, hv, rfl⟩
  clear HT
  cases v with
  | false =>
    clear hv
    go_wp2_with fail
    go_ret
    exact ⟨rfl, Grown.refl _⟩
  | true =>
    have ht := hv rfl
    clear hv
    have HTI : Hid (Tidy t.data.toList) := ht
    clear ht
    go_wp2_with fail
    refine (HQa _).mono ?_
    rintro z w1 ⟨v, rfl, hv, rfl⟩
    clear HQa
    cases v with
    | true =>
      clear hv
      go_wp2_with fail
      go_ret
      exact ⟨rfl, Grown.refl _⟩
    | false =>
      have Qa : Hid (39 ∉ (⟨#[]⟩ : ByteArray).data.toList) := hv rfl
      clear hv
      go_wp2_with fail
      refine (HQb _).mono ?_
      rintro z w1 ⟨v, rfl, hv, rfl⟩
      clear HQb
      cases v with
      | true =>
        clear hv
        go_wp2_with fail
        go_ret
        exact ⟨rfl, Grown.refl _⟩
      | false =>
        have Qb : Hid (39 ∉ (⟨#[]⟩ : ByteArray).data.toList) := hv rfl
        clear hv
        go_wp2_with fail
        refine (HQc _).mono ?_
        rintro z w1 ⟨v, rfl, hv, rfl⟩
        clear HQc
        cases v with
        | true =>
          clear hv
          go_wp2_with fail
          go_ret
          exact ⟨rfl, Grown.refl _⟩
        | false =>
          have Qc : Hid (39 ∉ (⟨#[]⟩ : ByteArray).data.toList) := hv rfl
          clear hv
          go_wp2_with fail
          refine (HQd _).mono ?_
          rintro z w1 ⟨v, rfl, hv, rfl⟩
          clear HQd
          cases v with
          | true =>
            clear hv
            go_wp2_with fail
            go_ret
            exact ⟨rfl, Grown.refl _⟩
          | false =>
            have Qd : Hid (39 ∉ (d : ByteArray).data.toList) := hv rfl
            clear hv
            go_wp2_with fail
            refine (HQe _).mono ?_
            rintro z w1 ⟨v, rfl, hv, rfl⟩
            clear HQe
            cases v with
            | true =>
              clear hv
              go_wp2_with fail
              go_ret
              exact ⟨rfl, Grown.refl _⟩
            | false =>
              have Qe : Hid (39 ∉ (e : ByteArray).data.toList) := hv rfl
              clear hv
              go_wp2_with fail
              refine (HC _).mono ?_
              rintro z w2 ⟨rfl, hg2⟩
              clear HC
              go_wp2_with fail
              refine (HR.out HTI.out Qa.out Qb.out Qc.out Qd.out Qe.out _ (by kernel_rfl) _).mono ?_
              rintro z w3 ⟨rfl, hg3⟩
              clear HR
              go_wp2_with fail
              go_ret
              exact ⟨Ud.ret_bool (by simp), grown_trans (grown_trans ((Grown.refl _).alloc _ _) (grown_trans hg2 hg3)) ((Grown.refl _).alloc _ _)⟩
end Go.Proofs.Qxb6604267aMods.Law5
