import Derived.Test.Qxb6604267aModsAcc
import Derived.OpenShut
namespace Go.Proofs.Qxb6604267aMods.Law7
open Go.RowKit
open AccC Digits

set_option maxHeartbeats 400000 in
theorem zz_yes (s : ByteArray) (h : (s.size : Int) ≤ 1048576) (w : World) :
    Calls Trym.prog 19 #[.string s] w fun e w' => e = .returned (.bool true) ∧ w' = w := by
  go_enter Trym.func19, Trym.ntmps19
  go_wp2
  go_ret
  exact ⟨rfl, rfl⟩
set_option maxHeartbeats 400000 in
theorem zz_no (s : ByteArray) (h : (1048576 : Int) < s.size) (w : World) :
    Calls Trym.prog 19 #[.string s] w fun e w' => e = .returned (.bool false) ∧ w' = w := by
  go_enter Trym.func19, Trym.ntmps19
  go_wp2
  go_ret
  exact ⟨rfl, rfl⟩

theorem val_step (s : ByteArray) (k : Nat) (h : k < s.size) : val (s.data.toList.take (k + 1)) = val (s.data.toList.take k) * 10 + bv s[k] := by
  rw [take_snoc s k h, val_snoc]

theorem val_bd (s : ByteArray) (k : Nat) (hk : k ≤ 12) : val (s.data.toList.take k) ≤ 29000000000000 := by
  have h := val_lt (s.data.toList.take k)
  have hl : (s.data.toList.take k).length ≤ 12 := by rw [List.length_take]; omega
  have := Nat.pow_le_pow_right (n := 10) (by omega) hl
  omega

theorem int_eq {k : IntKind} {a b : Int} (h : a = b) : Value.int k a = .int k b := by rw [h]
theorem tw_back (s : ByteArray) (k x : Nat) (hk : k = s.size) (h12 : (s.size : Int) = 12) (hx : x = val (s.data.toList.take k)) : (tw 12 x == s.toList) = accB s := by
  have e : s.data.toList.take k = s.data.toList := List.take_of_length_le (by rw [hk]; exact Nat.le_of_eq rfl)
  rw [e] at hx
  have hl : s.data.toList.length = 12 := by show s.size = 12; omega
  have h := twelve s.data.toList hl
  rw [ByteArray.toList_eq, hx, h]
  have h12' : s.size = 12 := by omega
  simp [accB, h12']

set_option maxHeartbeats 400000 in
theorem walk7 (s : ByteArray) (w : World) :
    Calls Trym.prog 7 #[.string s] w fun e w' => e = .returned (.bool true) ∧ Grown w w' := by
  by_cases h : (1048576 : Int) < s.size
  · go_enter Trym.func7, Trym.ntmps7
    go_wp2_with fail
    refine (zz_no s h _).mono ?_
    rintro e w1 ⟨rfl, rfl⟩
    go_wp2_with fail
    go_ret
    exact ⟨rfl, Grown.refl _⟩
  · by_cases h12 : (s.size : Int) = 12
    · go_enter Trym.func7, Trym.ntmps7
      go_wp2_with fail
      refine (zz_yes s (by omega) _).mono ?_
      rintro e w1 ⟨rfl, rfl⟩
      go_wp2_with fail
      go_loop [4, 5] (fun v i => ∃ k x : Nat, k ≤ 12 ∧ Hid (x = val (s.data.toList.take k)) ∧ v = .int .u64 x ∧ i = .int .i64 k) (fun _ i => 12 - (intOf i).toNat)
      case atStart => exact ⟨0, 0, by omega, rfl, rfl, rfl⟩
      case round =>
        obtain ⟨k, x, hk, HX, rfl, rfl⟩ := hrel
        by_cases hlt : k < 12
        · have hks : k < s.size := by omega
          have hxb : (x : Int) ≤ 29000000000000 := by
            have := val_bd s k hk
            have := HX.out
            omega
          have HN : Hid (x * 10 + bv s[k] = val (s.data.toList.take (k + 1))) := by
            rw [HX.out]; exact (val_step s k hks).symm
          go_wp2_with fail
          go_round
          case rel => exact ⟨k + 1, x * 10 + bv s[k], by omega, HN.out, int_eq (by unfold bv; omega), by go_num⟩
          case measure => simp [intOf]; omega
        · have hk12 : k = s.size := by omega
          have hxb : x < 18446744073709551616 := by
            have := val_bd s k hk
            have := HX.out
            omega
          have heq : (tw 12 x == s.toList) = accB s := tw_back s k x hk12 h12 HX.out
          clear HX hk12
          go_wp2_with fail
          refine (tw_any x hxb _).mono ?_
          rintro e w2 ⟨rfl, hg2⟩
          go_wp2_with fail
          refine (acc_any _ _).mono ?_
          rintro e w3 ⟨rfl, hg3⟩
          go_wp2_with fail
          go_ret
          exact ⟨ret_bool (by simp), grown_trans hg2 hg3⟩
    · go_enter Trym.func7, Trym.ntmps7
      go_wp2_with fail
      refine (zz_yes s (by omega) _).mono ?_
      rintro e w1 ⟨rfl, rfl⟩
      have hacc : accB s = false := acc_short s (by omega)
      go_wp2_with fail
      refine (acc_any _ _).mono ?_
      rintro e w1 ⟨rfl, hg1⟩
      go_wp2_with fail
      go_ret
      exact ⟨rfl, hg1⟩
end Go.Proofs.Qxb6604267aMods.Law7
