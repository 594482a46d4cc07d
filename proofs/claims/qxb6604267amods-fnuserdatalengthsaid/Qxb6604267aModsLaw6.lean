import Derived.Test.Qxb6604267aModsUdz
namespace Go.Proofs.Qxb6604267aMods.Law6
open Go.RowKit
open Ud

theorem nil_of {a : ByteArray} (h : a.toList.isEmpty = true) : a = ⟨#[]⟩ := by
  rw [ByteArray.toList_eq] at h
  obtain ⟨⟨l⟩⟩ := a
  simp at h
  subst h; rfl

/-- The zero Install's two lengths. -/
theorem calls0 (t : ByteArray) (ht : (t.size : Int) ≤ 65536) : ∃ (X R : ByteArray), (X.size : Int) ≤ 500000 ∧ (R.size : Int) ≤ 500000 ∧ Hid ((X.size : Int) = R.size + 2 * t.size) ∧
    (∀ w, Calls Trym.prog 17 #[.string t, .agg #[.string ⟨#[]⟩, .string ⟨#[]⟩, .string ⟨#[]⟩, .string ⟨#[]⟩, .string ⟨#[]⟩]] w fun e w' => e = .returned (.string X) ∧ Grown w w') ∧
    (∀ w, Calls Trym.prog 17 #[.string ⟨#[]⟩, .agg #[.string ⟨#[]⟩, .string ⟨#[]⟩, .string ⟨#[]⟩, .string ⟨#[]⟩, .string ⟨#[]⟩]] w fun e w' => e = .returned (.string R) ∧ Grown w w') := by
  obtain ⟨K, hK, hs⟩ := ud0_size
  have h1 := hs t
  have h2 := hs ⟨#[]⟩
  have h3 : (⟨#[]⟩ : ByteArray).size = 0 := rfl
  exact ⟨_, _, by omega, by omega, by show (_ : Int) = _; omega, zud_zero t ht, zud_zero ⟨#[]⟩ (by omega)⟩

/-- Every other Install's. -/
theorem calls1 (t a b c d e : ByteArray) (ht : (t.size : Int) ≤ 65536) (ha : (a.size : Int) ≤ 65536) (hb : (b.size : Int) ≤ 65536) (hc : (c.size : Int) ≤ 65536) (hd : (d.size : Int) ≤ 65536) (he : (e.size : Int) ≤ 65536) (hz : allNil a b c d e = false) :
    ∃ (X R : ByteArray), (X.size : Int) ≤ 500000 ∧ (R.size : Int) ≤ 500000 ∧ 1 ≤ (R.size : Int) ∧ Hid ((X.size : Int) = R.size - 1 + 2 * t.size + a.size + b.size + c.size + d.size + e.size) ∧
    (∀ w, Calls Trym.prog 17 #[.string t, .agg #[.string a, .string b, .string c, .string d, .string e]] w fun e w' => e = .returned (.string X) ∧ Grown w w') ∧
    (∀ w, Calls Trym.prog 17 #[.string ⟨#[]⟩, .agg #[.string ⟨#[]⟩, .string ⟨#[]⟩, .string ⟨#[]⟩, .string ⟨#[]⟩, .string ⟨#[117]⟩]] w fun e w' => e = .returned (.string R) ∧ Grown w w') := by
  obtain ⟨K, hK, hs⟩ := ud1_size
  have h1 := hs t a b c d e
  have h2 := hs ⟨#[]⟩ ⟨#[]⟩ ⟨#[]⟩ ⟨#[]⟩ ⟨#[]⟩ ⟨#[117]⟩
  have h3 : (⟨#[]⟩ : ByteArray).size = 0 := rfl
  have h4 : (⟨#[117]⟩ : ByteArray).size = 1 := rfl
  rw [h3, h4] at h2
  refine ⟨_, _, by omega, by omega, by omega, by show (_ : Int) = _; omega, zud_more t a b c d e ht ha hb hc hd he hz, zud_more ⟨#[]⟩ ⟨#[]⟩ ⟨#[]⟩ ⟨#[]⟩ ⟨#[]⟩ ⟨#[117]⟩ (by omega) (by omega) (by omega) (by omega) (by omega) (by omega) ?_⟩
  simp [allNil, ByteArray.toList_eq]

set_option maxHeartbeats 1000000 in
theorem zero (t : ByteArray) (ht : (t.size : Int) ≤ 65536) (w : World) :
    Calls Trym.prog 6 #[.string t, .string ⟨#[]⟩, .string ⟨#[]⟩, .string ⟨#[]⟩, .string ⟨#[]⟩, .string ⟨#[]⟩] w fun e w' => e = .returned (.bool true) ∧ Grown w w' := by
  obtain ⟨X, R, hX, hR, HXR, HC, HD⟩ := calls0 t ht
  have h0 : ((⟨#[]⟩ : ByteArray).size : Int) = 0 := rfl
  have HZ := zz_yes t ⟨#[]⟩ ⟨#[]⟩ ⟨#[]⟩ ⟨#[]⟩ ⟨#[]⟩ (by omega)
  clear h0
  go_enter Trym.func6, Trym.ntmps6
  go_wp2_with fail
  refine (HZ _).mono ?_
  rintro z w1 ⟨rfl, rfl⟩
  clear HZ
  go_wp2_with fail
  refine (HC _).mono ?_
  rintro z w2 ⟨rfl, hg2⟩
  clear HC
  go_wp2_with fail
  refine (HD _).mono ?_
  rintro z w3 ⟨rfl, hg3⟩
  clear HD
  go_wp2_with fail
  go_ret
  exact ⟨ret_bool (by have := HXR.out; simp; omega), grown_trans ((Grown.refl _).alloc _ _) (grown_trans hg2 hg3)⟩

set_option maxHeartbeats 1000000 in
theorem more0 (t a b c d e : ByteArray) (ht : (t.size : Int) ≤ 65536) (ha : (a.size : Int) ≤ 65536) (hb : (b.size : Int) ≤ 65536) (hc : (c.size : Int) ≤ 65536) (hd : (d.size : Int) ≤ 65536) (he : (e.size : Int) ≤ 65536) (na : a.toList.isEmpty = false) (w : World) :
    Calls Trym.prog 6 #[.string t, .string a, .string b, .string c, .string d, .string e] w fun e w' => e = .returned (.bool true) ∧ Grown w w' := by
  have h0 : ((⟨#[]⟩ : ByteArray).size : Int) = 0 := rfl
  have hz : allNil a b c d e = false := by simp [allNil, na]
  obtain ⟨X, R, hX, hR, hR1, HXR, HC, HD⟩ := calls1 t a b c d e ht ha hb hc hd he hz
  have HZ := zz_yes t a b c d e (by omega)
  have HN : Hid ((X.size : Int) = R.size - 1 + 2 * t.size + a.size + b.size + c.size + d.size + e.size) := by
    have := HXR.out
    show (_ : Int) = _
    omega
  clear h0 hz HXR
  go_enter Trym.func6, Trym.ntmps6
  go_wp2_with fail
  refine (HZ _).mono ?_
  rintro z w1 ⟨rfl, rfl⟩
  clear HZ
  go_wp2_with fail
  refine (HC _).mono ?_
  rintro z w2 ⟨rfl, hg2⟩
  clear HC
  go_wp2_with fail
  refine (HD _).mono ?_
  rintro z w3 ⟨rfl, hg3⟩
  clear HD
  go_wp2_with fail
  go_ret
  exact ⟨ret_bool (by have := HN.out; simp; omega), grown_trans ((Grown.refl _).alloc _ _) (grown_trans hg2 hg3)⟩

set_option maxHeartbeats 1000000 in
theorem more1 (t b c d e : ByteArray) (ht : (t.size : Int) ≤ 65536) (hb : (b.size : Int) ≤ 65536) (hc : (c.size : Int) ≤ 65536) (hd : (d.size : Int) ≤ 65536) (he : (e.size : Int) ≤ 65536) (na : b.toList.isEmpty = false) (w : World) :
    Calls Trym.prog 6 #[.string t, .string ⟨#[]⟩, .string b, .string c, .string d, .string e] w fun e w' => e = .returned (.bool true) ∧ Grown w w' := by
  have h0 : ((⟨#[]⟩ : ByteArray).size : Int) = 0 := rfl
  have hz : allNil ⟨#[]⟩ b c d e = false := by simp [allNil, na]
  obtain ⟨X, R, hX, hR, hR1, HXR, HC, HD⟩ := calls1 t ⟨#[]⟩ b c d e ht (by omega) hb hc hd he hz
  have HZ := zz_yes t ⟨#[]⟩ b c d e (by omega)
  have HN : Hid ((X.size : Int) = R.size - 1 + 2 * t.size + b.size + c.size + d.size + e.size) := by
    have := HXR.out
    show (_ : Int) = _
    omega
  clear h0 hz HXR
  go_enter Trym.func6, Trym.ntmps6
  go_wp2_with fail
  refine (HZ _).mono ?_
  rintro z w1 ⟨rfl, rfl⟩
  clear HZ
  go_wp2_with fail
  refine (HC _).mono ?_
  rintro z w2 ⟨rfl, hg2⟩
  clear HC
  go_wp2_with fail
  refine (HD _).mono ?_
  rintro z w3 ⟨rfl, hg3⟩
  clear HD
  go_wp2_with fail
  go_ret
  exact ⟨ret_bool (by have := HN.out; simp; omega), grown_trans ((Grown.refl _).alloc _ _) (grown_trans hg2 hg3)⟩

set_option maxHeartbeats 1000000 in
theorem more2 (t c d e : ByteArray) (ht : (t.size : Int) ≤ 65536) (hc : (c.size : Int) ≤ 65536) (hd : (d.size : Int) ≤ 65536) (he : (e.size : Int) ≤ 65536) (na : c.toList.isEmpty = false) (w : World) :
    Calls Trym.prog 6 #[.string t, .string ⟨#[]⟩, .string ⟨#[]⟩, .string c, .string d, .string e] w fun e w' => e = .returned (.bool true) ∧ Grown w w' := by
  have h0 : ((⟨#[]⟩ : ByteArray).size : Int) = 0 := rfl
  have hz : allNil ⟨#[]⟩ ⟨#[]⟩ c d e = false := by simp [allNil, na]
  obtain ⟨X, R, hX, hR, hR1, HXR, HC, HD⟩ := calls1 t ⟨#[]⟩ ⟨#[]⟩ c d e ht (by omega) (by omega) hc hd he hz
  have HZ := zz_yes t ⟨#[]⟩ ⟨#[]⟩ c d e (by omega)
  have HN : Hid ((X.size : Int) = R.size - 1 + 2 * t.size + c.size + d.size + e.size) := by
    have := HXR.out
    show (_ : Int) = _
    omega
  clear h0 hz HXR
  go_enter Trym.func6, Trym.ntmps6
  go_wp2_with fail
  refine (HZ _).mono ?_
  rintro z w1 ⟨rfl, rfl⟩
  clear HZ
  go_wp2_with fail
  refine (HC _).mono ?_
  rintro z w2 ⟨rfl, hg2⟩
  clear HC
  go_wp2_with fail
  refine (HD _).mono ?_
  rintro z w3 ⟨rfl, hg3⟩
  clear HD
  go_wp2_with fail
  go_ret
  exact ⟨ret_bool (by have := HN.out; simp; omega), grown_trans ((Grown.refl _).alloc _ _) (grown_trans hg2 hg3)⟩

set_option maxHeartbeats 1000000 in
theorem more3 (t d e : ByteArray) (ht : (t.size : Int) ≤ 65536) (hd : (d.size : Int) ≤ 65536) (he : (e.size : Int) ≤ 65536) (na : d.toList.isEmpty = false) (w : World) :
    Calls Trym.prog 6 #[.string t, .string ⟨#[]⟩, .string ⟨#[]⟩, .string ⟨#[]⟩, .string d, .string e] w fun e w' => e = .returned (.bool true) ∧ Grown w w' := by
  have h0 : ((⟨#[]⟩ : ByteArray).size : Int) = 0 := rfl
  have hz : allNil ⟨#[]⟩ ⟨#[]⟩ ⟨#[]⟩ d e = false := by simp [allNil, na]
  obtain ⟨X, R, hX, hR, hR1, HXR, HC, HD⟩ := calls1 t ⟨#[]⟩ ⟨#[]⟩ ⟨#[]⟩ d e ht (by omega) (by omega) (by omega) hd he hz
  have HZ := zz_yes t ⟨#[]⟩ ⟨#[]⟩ ⟨#[]⟩ d e (by omega)
  have HN : Hid ((X.size : Int) = R.size - 1 + 2 * t.size + d.size + e.size) := by
    have := HXR.out
    show (_ : Int) = _
    omega
  clear h0 hz HXR
  go_enter Trym.func6, Trym.ntmps6
  go_wp2_with fail
  refine (HZ _).mono ?_
  rintro z w1 ⟨rfl, rfl⟩
  clear HZ
  go_wp2_with fail
  refine (HC _).mono ?_
  rintro z w2 ⟨rfl, hg2⟩
  clear HC
  go_wp2_with fail
  refine (HD _).mono ?_
  rintro z w3 ⟨rfl, hg3⟩
  clear HD
  go_wp2_with fail
  go_ret
  exact ⟨ret_bool (by have := HN.out; simp; omega), grown_trans ((Grown.refl _).alloc _ _) (grown_trans hg2 hg3)⟩

set_option maxHeartbeats 1000000 in
theorem more4 (t e : ByteArray) (ht : (t.size : Int) ≤ 65536) (he : (e.size : Int) ≤ 65536) (na : e.toList.isEmpty = false) (w : World) :
    Calls Trym.prog 6 #[.string t, .string ⟨#[]⟩, .string ⟨#[]⟩, .string ⟨#[]⟩, .string ⟨#[]⟩, .string e] w fun e w' => e = .returned (.bool true) ∧ Grown w w' := by
  have h0 : ((⟨#[]⟩ : ByteArray).size : Int) = 0 := rfl
  have hz : allNil ⟨#[]⟩ ⟨#[]⟩ ⟨#[]⟩ ⟨#[]⟩ e = false := by simp [allNil, na]
  obtain ⟨X, R, hX, hR, hR1, HXR, HC, HD⟩ := calls1 t ⟨#[]⟩ ⟨#[]⟩ ⟨#[]⟩ ⟨#[]⟩ e ht (by omega) (by omega) (by omega) (by omega) he hz
  have HZ := zz_yes t ⟨#[]⟩ ⟨#[]⟩ ⟨#[]⟩ ⟨#[]⟩ e (by omega)
  have HN : Hid ((X.size : Int) = R.size - 1 + 2 * t.size + e.size) := by
    have := HXR.out
    show (_ : Int) = _
    omega
  clear h0 hz HXR
  go_enter Trym.func6, Trym.ntmps6
  go_wp2_with fail
  refine (HZ _).mono ?_
  rintro z w1 ⟨rfl, rfl⟩
  clear HZ
  go_wp2_with fail
  refine (HC _).mono ?_
  rintro z w2 ⟨rfl, hg2⟩
  clear HC
  go_wp2_with fail
  refine (HD _).mono ?_
  rintro z w3 ⟨rfl, hg3⟩
  clear HD
  go_wp2_with fail
  go_ret
  exact ⟨ret_bool (by have := HN.out; simp; omega), grown_trans ((Grown.refl _).alloc _ _) (grown_trans hg2 hg3)⟩

set_option maxHeartbeats 1000000 in
theorem big (t a b c d e : ByteArray) (hs : (t.size : Int) + a.size + b.size + c.size + d.size + e.size ≤ 1048576)
    (hb : (65536 : Int) < t.size ∨ (65536 : Int) < a.size ∨ (65536 : Int) < b.size ∨ (65536 : Int) < c.size ∨ (65536 : Int) < d.size ∨ (65536 : Int) < e.size) (w : World) :
    Calls Trym.prog 6 #[.string t, .string a, .string b, .string c, .string d, .string e] w fun e w' => e = .returned (.bool true) ∧ Grown w w' := by
  have HB : Hid ((65536 : Int) < t.size ∨ (65536 : Int) < a.size ∨ (65536 : Int) < b.size ∨ (65536 : Int) < c.size ∨ (65536 : Int) < d.size ∨ (65536 : Int) < e.size) := hb
  clear hb
  go_enter Trym.func6, Trym.ntmps6
  go_wp2_with fail
  refine (zz_yes t a b c d e hs _).mono ?_
  rintro z w1 ⟨rfl, rfl⟩
  go_wp2_with fail
  all_goals first | (go_ret; exact ⟨rfl, Grown.refl _⟩) | (exfalso; have := HB.out; omega)

set_option maxHeartbeats 1000000 in
theorem walk6 (t a b c d e : ByteArray) (w : World) :
    Calls Trym.prog 6 #[.string t, .string a, .string b, .string c, .string d, .string e] w fun e w' => e = .returned (.bool true) ∧ Grown w w' := by
  by_cases hs : (1048576 : Int) < (t.size : Int) + a.size + b.size + c.size + d.size + e.size
  · go_enter Trym.func6, Trym.ntmps6
    go_wp2_with fail
    refine (zz_no t a b c d e hs _).mono ?_
    rintro z w1 ⟨rfl, rfl⟩
    go_wp2_with fail
    go_ret
    exact ⟨rfl, Grown.refl _⟩
  · by_cases hb : (65536 : Int) < t.size ∨ (65536 : Int) < a.size ∨ (65536 : Int) < b.size ∨ (65536 : Int) < c.size ∨ (65536 : Int) < d.size ∨ (65536 : Int) < e.size
    · exact big t a b c d e (by omega) hb w
    · cases na : a.toList.isEmpty with
      | false => exact more0 t a b c d e (by omega) (by omega) (by omega) (by omega) (by omega) (by omega) na w
      | true =>
        cases nb : b.toList.isEmpty with
        | false => rw [nil_of na]; exact more1 t b c d e (by omega) (by omega) (by omega) (by omega) (by omega) nb w
        | true =>
          cases nc : c.toList.isEmpty with
          | false => rw [nil_of na, nil_of nb]; exact more2 t c d e (by omega) (by omega) (by omega) (by omega) nc w
          | true =>
            cases nd : d.toList.isEmpty with
            | false => rw [nil_of na, nil_of nb, nil_of nc]; exact more3 t d e (by omega) (by omega) (by omega) nd w
            | true =>
              cases ne : e.toList.isEmpty with
              | false => rw [nil_of na, nil_of nb, nil_of nc, nil_of nd]; exact more4 t e (by omega) (by omega) ne w
              | true => rw [nil_of na, nil_of nb, nil_of nc, nil_of nd, nil_of ne]; exact zero t (by omega) w
end Go.Proofs.Qxb6604267aMods.Law6
