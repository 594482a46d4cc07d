import Derived.Test.Qxb6604267aModsRead
namespace Go.Proofs.Qxb6604267aMods.Rd
open Go.RowKit

/-! ### at -/
/-- Does the text T stand in S at i? -/
def atL (S : List UInt8) (i : Nat) (T : List UInt8) : Bool := (S.drop i).take T.length == T
theorem at_short (S T : List UInt8) (i : Nat) (h : S.length < i + T.length) (h0 : i ≤ S.length) : atL S i T = false := by
  unfold atL
  rw [Bool.eq_false_iff]
  intro e
  have := congrArg List.length (eq_of_beq e)
  simp at this
  omega
theorem at_miss (S T : List UInt8) (i k : Nat) (hk : k < T.length) (hs : i + k < S.length) (h : S[i + k] ≠ T[k]) : atL S i T = false := by
  unfold atL
  rw [Bool.eq_false_iff]
  intro e
  have e := eq_of_beq e
  have := congrArg (fun l => l[k]?) e
  simp only [List.getElem?_take, List.getElem?_drop, hk, if_true, List.getElem?_eq_getElem hs, List.getElem?_eq_getElem hk, Option.some.injEq] at this
  exact h this
theorem at_hit (S T : List UInt8) (i : Nat) (h : (S.drop i).take T.length = T) : atL S i T = true := by
  unfold atL; rw [h]; simp
theorem at_step (s t : ByteArray) (i k : Nat) (hk : k < t.size) (hs : i + k < s.size) (h : (s.data.toList.drop i).take k = t.data.toList.take k) (he : s[i + k] = t[k]) :
    (s.data.toList.drop i).take (k + 1) = t.data.toList.take (k + 1) := by
  have h1 : k < (s.data.toList.drop i).length := by rw [List.length_drop]; show k < s.size - i; omega
  rw [take_snoc t k hk, List.take_succ_eq_append_getElem h1, h, ← he, List.getElem_drop]
  rfl

set_option maxHeartbeats 1000000 in
theorem at_any (s t : ByteArray) (i : Nat) (hs : (s.size : Int) ≤ 1000000) (ht : (t.size : Int) ≤ 1000000) (hi : (i : Int) ≤ s.size) (w : World) :
    Calls Trym.prog 23 #[.string s, .int .i64 i, .string t] w fun e w' => e = .returned (.bool (atL s.data.toList i t.data.toList)) ∧ ∃ q, w' = w.drewN q := by
  by_cases hl : (s.size : Int) < i + t.size
  · have HA : Hid (atL s.data.toList i t.data.toList = false) := at_short _ _ _ (by show s.size < i + t.size; omega) (by show i ≤ s.size; omega)
    have g1 : ((s.size : Int) - i) < t.size := by omega
    go_enter Trym.func23, Trym.ntmps23
    go_wp2
    go_ret
    exact ⟨ret_bool HA.out.symm, 0, rfl⟩
  · go_enter Trym.func23, Trym.ntmps23
    go_wp2
    go_loopw [7] (fun b wr => ∃ k q : Nat, k ≤ t.size ∧ b = .int .i64 k ∧ Hid ((s.data.toList.drop i).take k = t.data.toList.take k) ∧ wr = w.drewN q) (fun b _ => t.size - (intOf b).toNat)
    case atStart => exact ⟨0, 0, by omega, rfl, by simp [Hid], rfl⟩
    case round =>
      obtain ⟨k, q, hk, rfl, HT, rfl⟩ := hrel
      by_cases hlt : k < t.size
      · have hik : i + k < s.size := by omega
        have hwr : IntKind.i64.wrap ((i : Int) + (k : Int)) = (i : Int) + (k : Int) := by rw [IntKind.wrap_i64]; omega
        have hik1 : (0 : Int) ≤ (i : Int) + (k : Int) := by omega
        have hik2 : (i : Int) + (k : Int) < s.size := by omega
        have hik3 : ((i : Int) + (k : Int)).toNat = i + k := by omega
        have hkt : (k : Int) < t.size := by omega
        by_cases he : (s[i + k].toNat : Int) = t[k].toNat
        · have heb : ((s[i + k].toNat : Int) == t[k].toNat) = true := by simpa using he
          have HN := at_step s t i k hlt hik HT.out (byte_eq he)
          have HN' : Hid ((s.data.toList.drop i).take (k + 1) = t.data.toList.take (k + 1)) := HN
          clear HN he
          go_wp2
          go_quiet (fail)
          go_wp2
          go_roundw
          case rel => exact ⟨k + 1, _, by omega, by go_num, HN', rfl⟩
          case measure => simp [intOf]; omega
        · have heb : ((s[i + k].toNat : Int) == t[k].toNat) = false := by simpa using he
          have HA : Hid (atL s.data.toList i t.data.toList = false) := at_miss _ _ i k hlt hik (byte_ne he)
          clear he
          go_wp2
          go_quiet (fail)
          go_wp2
          go_ret
          exact ⟨ret_bool HA.out.symm, q + nq, by simp⟩
      · have HA : Hid (atL s.data.toList i t.data.toList = true) := at_hit _ _ _ (by
          have := HT.out
          rw [take_all t k (by omega)] at this
          have e : k = t.data.toList.length := by show k = t.size; omega
          rw [← e]; exact this)
        go_wp2
        go_ret
        exact ⟨ret_bool HA.out.symm, q, rfl⟩
end Go.Proofs.Qxb6604267aMods.Rd
