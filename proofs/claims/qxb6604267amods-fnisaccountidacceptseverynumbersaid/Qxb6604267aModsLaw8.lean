import Derived.Test.Qxb6604267aModsAcc
import Derived.OpenShut
namespace Go.Proofs.Qxb6604267aMods.Law8
open Go.RowKit
open AccC Digits

theorem acc_tw (n : Nat) : accB ⟨(tw 12 n).toArray⟩ = true := by
  have h1 : (tw 12 n).length = 12 := tw_length 12 n
  have h2 := tw_all 12 n
  have h3 : (ByteArray.mk (tw 12 n).toArray).size = 12 := by show (tw 12 n).toArray.size = 12; simpa using h1
  unfold accB
  rw [h3]
  simpa using h2

theorem acc_x (S : ByteArray) (hsz : S.size = 12) : accB (S.extract 0 11 ++ ({ data := #[120] } : ByteArray)) = false := by
  have hl : (S.extract 0 11 ++ ({ data := #[120] } : ByteArray)).size = 12 := by
    rw [ByteArray.size_append, ByteArray.size_extract]; show min 11 S.size - 0 + 1 = 12; omega
  refine acc_bad _ 11 (by omega) ?_
  rw [ByteArray.getElem_append_right (by rw [ByteArray.size_extract]; omega)]
  have e : 11 - (S.extract 0 11).size = 0 := by rw [ByteArray.size_extract]; omega
  simp only [e]
  rfl

set_option maxHeartbeats 400000 in
theorem walk8 (a0 : Int) (w0 : (Lit.int .u64 a0).wf = true) (w : World) :
    Calls Trym.prog 8 #[.int .u64 a0] w fun e w' => e = .returned (.bool true) ∧ Grown w w' := by
  have hb : 0 ≤ a0 ∧ a0 < 18446744073709551616 := by
    have := bounds_u64 w0
    omega
  by_cases h : 999999999999 < a0
  · go_enter Trym.func8, Trym.ntmps8
    go_wp2
    go_ret
    exact ⟨rfl, Grown.refl _⟩
  · obtain ⟨n, rfl⟩ := Int.eq_ofNat_of_zero_le hb.1
    have hS : ∃ S : ByteArray, S = ⟨(tw 12 n).toArray⟩ := ⟨_, rfl⟩
    obtain ⟨S, hS⟩ := hS
    have hacc : accB S = true := by rw [hS]; exact acc_tw n
    have hsz : S.size = 12 := by
      have := tw_length 12 n
      rw [hS]; show (tw 12 n).toArray.size = 12; simpa using this
    have htw := tw_any n (by omega)
    rw [← hS] at htw
    have HT := htw
    clear htw hS
    have h2 : accB (S.extract 1 12) = false := acc_short _ (by rw [ByteArray.size_extract]; omega)
    have h3 : accB (({ data := #[48] } : ByteArray) ++ S) = false := acc_short _ (by rw [ByteArray.size_append]; show 1 + S.size ≠ 12; omega)
    have h4 : accB (S.extract 0 11 ++ ({ data := #[120] } : ByteArray)) = false := acc_x S hsz
    go_enter Trym.func8, Trym.ntmps8
    go_wp2_with fail
    refine (HT _).mono ?_
    clear HT
    rintro e w1 ⟨rfl, hg1⟩
    go_wp2_with fail
    refine (acc_any _ _).mono ?_
    rintro e w2 ⟨rfl, hg2⟩
    go_wp2_with fail
    refine (acc_any _ _).mono ?_
    rintro e w3 ⟨rfl, hg3⟩
    go_wp2_with fail
    refine (acc_any _ _).mono ?_
    rintro e w4 ⟨rfl, hg4⟩
    go_wp2_with fail
    refine (acc_any _ _).mono ?_
    rintro e w5 ⟨rfl, hg5⟩
    go_wp2_with fail
    go_ret
    exact ⟨rfl, grown_trans hg1 (grown_trans hg2 (grown_trans hg3 (grown_trans hg4 hg5)))⟩
end Go.Proofs.Qxb6604267aMods.Law8
