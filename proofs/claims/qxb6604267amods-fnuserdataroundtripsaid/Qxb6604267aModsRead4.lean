import Derived.Test.Qxb6604267aModsRead3
namespace Go.Proofs.Qxb6604267aMods.Rd
open Go.RowKit

theorem at_idx {s : ByteArray} {L : List UInt8} (hS : s.data.toList = L) (j : Nat) (hj : j < s.size) {x : UInt8} (h : L[j]? = some x) : s[j] = x := by
  have e : s.data.toList[j]? = some s[j] := List.getElem?_eq_getElem (show j < s.data.toList.length from hj)
  rw [hS, h] at e
  exact (Option.some.inj e).symm
theorem size_of {s : ByteArray} {L : List UInt8} (hS : s.data.toList = L) : s.size = L.length := by rw [← hS]; rfl
theorem extract_mid {s v : ByteArray} {U R : List UInt8} (hS : s.data.toList = U ++ v.data.toList ++ R) : s.extract U.length (U.length + v.size) = v := by
  have hl : v.data.toList.length = v.size := rfl
  apply ByteArray.ext
  apply Array.ext'
  rw [ByteArray.data_extract, Array.toList_extract, List.extract_eq_take_drop, hS]
  rw [List.append_assoc, List.drop_left, Nat.add_sub_cancel_left, ← hl, List.take_left]

theorem quoted_list (s v : ByteArray) (U R : List UInt8) (i q : Int) (hs : (s.size : Int) ≤ 1000000) (hS : s.data.toList = U ++ v.data.toList ++ 39 :: R) (hv : 39 ∉ v.data.toList)
    (hi : i = U.length) (hq : q = (U.length : Int) + v.size) (w : World) :
    Calls Trym.prog 26 #[.string s, .int .i64 i] w fun e w' => e = .returned (.tuple #[.string v, .int .i64 q, .bool true]) ∧ w' = w := by
  have hl : v.data.toList.length = v.size := rfl
  have hsz := size_of hS
  simp only [List.length_append, List.length_cons] at hsz
  subst hi
  have hq' : q = ((U.length + v.size : Nat) : Int) := by rw [hq]; omega
  subst hq'
  refine quoted_core s v U.length (U.length + v.size) hs (by omega) (by omega) ?_ ?_ (extract_mid hS) w
  · rw [at_idx hS (U.length + v.size) (by omega) (x := 39) (by
      rw [List.getElem?_append_right (by simp)]
      simp [hl])]
    rfl
  · intro j hj hj1 he
    have hne : s[j] = 39 := byte_eq (b := 39) he
    have e : s.data.toList[j]? = some 39 := by
      rw [← hne]; exact List.getElem?_eq_getElem (show j < s.data.toList.length by show j < s.size; omega)
    rw [hS, List.append_assoc, List.getElem?_append_right (by omega), List.getElem?_append_left (by omega)] at e
    exact hv (List.mem_of_getElem? e)

theorem at_mid {s t : ByteArray} {U R : List UInt8} (hS : s.data.toList = U ++ t.data.toList ++ R) : atL s.data.toList U.length t.data.toList = true := by
  apply at_hit
  rw [hS, List.append_assoc, List.drop_left, List.take_left]

theorem at_list (s t : ByteArray) (U R : List UInt8) (i : Int) (hs : (s.size : Int) ≤ 1000000) (hS : s.data.toList = U ++ t.data.toList ++ R) (hi : i = U.length) (w : World) :
    Calls Trym.prog 23 #[.string s, .int .i64 i, .string t] w fun e w' => e = .returned (.bool true) ∧ ∃ q, w' = w.drewN q := by
  have hsz := size_of hS
  have hl : t.data.toList.length = t.size := rfl
  simp only [List.length_append] at hsz
  subst hi
  have h := at_any s t U.length hs (by omega) (by omega) w
  rw [at_mid hS] at h
  exact h

set_option maxHeartbeats 1000000 in
theorem field_list (s key v : ByteArray) (U R : List UInt8) (i q : Int) (hs : (s.size : Int) ≤ 1000000)
    (hS : s.data.toList = U ++ (10 :: key.data.toList ++ [61, 39]) ++ v.data.toList ++ 39 :: R) (hv : 39 ∉ v.data.toList)
    (hi : i = U.length) (hq : q = (U.length : Int) + key.size + 3 + v.size) (w : World) :
    Calls Trym.prog 27 #[.string s, .int .i64 i, .string key] w fun e w' => e = .returned (.tuple #[.string v, .int .i64 q, .bool true]) ∧ ∃ r, w' = w.drewN r := by
  have hsz := size_of hS
  have hl : v.data.toList.length = v.size := rfl
  have hl2 : key.data.toList.length = key.size := rfl
  simp only [List.length_append, List.length_cons, List.length_nil] at hsz
  have HA := fun w => at_list s (({ data := #[10] } : ByteArray) ++ key ++ ({ data := #[61, 39] } : ByteArray)) U (v.data.toList ++ 39 :: R) i hs (by rw [hS]; simp) hi w
  have HQ := fun w => quoted_list s v (U ++ (10 :: key.data.toList ++ [61, 39])) R (i + key.size + 3) q hs hS hv (by rw [hi]; simp; omega) (by rw [hq]; simp; omega) w
  have hi0 : 0 ≤ i := by omega
  have hi1 : i + key.size + 3 + v.size < 1000000 := by omega
  have hk : (key.size : Int) ≤ 1000000 := by omega
  clear hS hv hi hq hsz hl hl2
  go_enter Trym.func27, Trym.ntmps27
  go_wp2_with fail
  refine (HA _).mono ?_
  rintro e w1 ⟨rfl, r, rfl⟩
  go_wp2_with fail
  refine (HQ _).mono ?_
  rintro e w2 ⟨rfl, rfl⟩
  clear HA HQ
  go_wp2_with fail
  go_ret3
  exact ⟨rfl, r, rfl⟩
end Go.Proofs.Qxb6604267aMods.Rd
