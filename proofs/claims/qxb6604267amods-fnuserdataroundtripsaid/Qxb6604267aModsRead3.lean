import Derived.Test.Qxb6604267aModsRead2
namespace Go.Proofs.Qxb6604267aMods.Rd
open Go.RowKit

/-! ### find -/
set_option maxHeartbeats 1000000 in
theorem find_hit (s t : ByteArray) (k : Nat) (hs : (s.size : Int) ≤ 1000000) (ht : (t.size : Int) ≤ 1000000) (hk : (k : Int) + t.size ≤ s.size)
    (h1 : atL s.data.toList k t.data.toList = true) (h0 : ∀ j, j < k → atL s.data.toList j t.data.toList = false) (w : World) :
    Calls Trym.prog 24 #[.string s, .string t] w fun e w' => e = .returned (.int .i64 k) ∧ ∃ q, w' = w.drewN q := by
  have H1 : Hid (atL s.data.toList k t.data.toList = true) := h1
  have H0 : Hid (∀ j, j < k → atL s.data.toList j t.data.toList = false) := h0
  clear h1 h0
  go_enter Trym.func24, Trym.ntmps24
  go_wp2_with fail
  go_loopw [5] (fun b wr => ∃ i q : Nat, i ≤ k ∧ b = .int .i64 i ∧ wr = w.drewN q) (fun b _ => k + 1 - (intOf b).toNat)
  case atStart => exact ⟨0, 0, by omega, rfl, rfl⟩
  case round =>
    obtain ⟨i, q, hi, rfl, rfl⟩ := hrel
    by_cases he : i = k
    · subst he
      have ha : atL s.data.toList i t.data.toList = true := H1.out
      go_wp2_with fail
      refine (at_any s t i hs ht (by omega) _).mono ?_
      rintro e w1 ⟨rfl, q', rfl⟩
      go_wp2_with fail
      go_ret
      exact ⟨rfl, _, rfl⟩
    · have ha : atL s.data.toList i t.data.toList = false := H0.out i (by omega)
      go_wp2_with fail
      refine (at_any s t i hs ht (by omega) _).mono ?_
      rintro e w1 ⟨rfl, q', rfl⟩
      go_wp2_with fail
      go_roundw
      case rel => exact ⟨i + 1, _, by omega, by go_num, rfl⟩
      case measure => simp [intOf]; omega

set_option maxHeartbeats 1000000 in
theorem find_none (s t : ByteArray) (hs : (s.size : Int) ≤ 1000000) (ht : (t.size : Int) ≤ 1000000)
    (h0 : ∀ j, atL s.data.toList j t.data.toList = false) (w : World) :
    Calls Trym.prog 24 #[.string s, .string t] w fun e w' => e = .returned (.int .i64 (-1)) ∧ ∃ q, w' = w.drewN q := by
  have H0 : Hid (∀ j, atL s.data.toList j t.data.toList = false) := h0
  clear h0
  go_enter Trym.func24, Trym.ntmps24
  go_wp2_with fail
  go_loopw [5] (fun b wr => ∃ i q : Nat, i ≤ s.size + 1 ∧ b = .int .i64 i ∧ wr = w.drewN q) (fun b _ => s.size + 1 - (intOf b).toNat)
  case atStart => exact ⟨0, 0, by omega, rfl, rfl⟩
  case round =>
    obtain ⟨i, q, hi, rfl, rfl⟩ := hrel
    by_cases hle : (i : Int) + t.size ≤ s.size
    · have ha : atL s.data.toList i t.data.toList = false := H0.out i
      go_wp2_with fail
      refine (at_any s t i hs ht (by omega) _).mono ?_
      rintro e w1 ⟨rfl, q', rfl⟩
      go_wp2_with fail
      go_roundw
      case rel => exact ⟨i + 1, _, by omega, by go_num, rfl⟩
      case measure => simp [intOf]; omega
    · go_wp2_with fail
      go_ret
      exact ⟨rfl, _, rfl⟩

/-! ### commentsOnly -/
set_option maxHeartbeats 1000000 in
theorem comments_yes (s : ByteArray) (hs : (s.size : Int) ≤ 1000000) (h0 : 0 < s.size) (hf : (s[0].toNat : Int) = 35)
    (hc : ∀ i (hi : i < s.size), (s[i].toNat : Int) = 10 → ∃ h : i + 1 < s.size, (s[i + 1].toNat : Int) = 35) (w : World) :
    Calls Trym.prog 25 #[.string s] w fun e w' => e = .returned (.bool true) ∧ w' = w := by
  have HC : Hid (∀ i (hi : i < s.size), (s[i].toNat : Int) = 10 → ∃ h : i + 1 < s.size, (s[i + 1].toNat : Int) = 35) := hc
  clear hc
  have hz : ((s.size : Int) == 0) = false := by rw [beq_eq_false_iff_ne]; omega
  go_enter Trym.func25, Trym.ntmps25
  go_wp2
  go_loop [3] (fun b => ∃ i : Nat, i ≤ s.size ∧ b = .int .i64 i) (fun b => s.size - (intOf b).toNat)
  case atStart => exact ⟨0, by omega, rfl⟩
  case round =>
    obtain ⟨i, hi, rfl⟩ := hrel
    by_cases hlt : i < s.size
    · by_cases hn : (s[i].toNat : Int) = 10
      · obtain ⟨h2, h3⟩ := HC.out i hlt hn
        go_wp2
        go_round
        case rel => exact ⟨i + 1, by omega, by go_num⟩
        case measure => simp [intOf]; omega
      · have hnb : ((s[i].toNat : Int) == 10) = false := by simpa using hn
        go_wp2
        go_round
        case rel => exact ⟨i + 1, by omega, by go_num⟩
        case measure => simp [intOf]; omega
    · go_wp2
      go_ret
      exact ⟨rfl, rfl⟩

/-! ### quoted -/
set_option maxHeartbeats 1000000 in
theorem quoted_core (s v : ByteArray) (n m : Nat) (hs : (s.size : Int) ≤ 1000000) (hnm : n ≤ m) (hm : m < s.size) (hq : (s[m].toNat : Int) = 39)
    (hno : ∀ j (hj : j < m), n ≤ j → ¬ (s[j].toNat : Int) = 39) (hx : s.extract n m = v) (w : World) :
    Calls Trym.prog 26 #[.string s, .int .i64 n] w fun e w' => e = .returned (.tuple #[.string v, .int .i64 m, .bool true]) ∧ w' = w := by
  have HN : Hid (∀ j (hj : j < m), n ≤ j → ¬ (s[j].toNat : Int) = 39) := hno
  subst hx
  clear hno
  go_enter Trym.func26, Trym.ntmps26
  go_wp2
  go_loop [7] (fun b => ∃ j : Nat, n ≤ j ∧ j ≤ m ∧ b = .int .i64 j) (fun b => m - (intOf b).toNat)
  case atStart => exact ⟨n, by omega, by omega, rfl⟩
  case round =>
    obtain ⟨j, hj1, hj2, rfl⟩ := hrel
    by_cases hlt : j < m
    · have h1 := HN.out j hlt hj1
      have h1b : ((s[j].toNat : Int) == 39) = false := by simpa using h1
      go_wp2
      go_round
      case rel => exact ⟨j + 1, by omega, by omega, by go_num⟩
      case measure => simp [intOf]; omega
    · have hke : j = m := by omega
      subst hke
      go_wp2
      go_ret3
      exact ⟨rfl, rfl⟩
end Go.Proofs.Qxb6604267aMods.Rd
