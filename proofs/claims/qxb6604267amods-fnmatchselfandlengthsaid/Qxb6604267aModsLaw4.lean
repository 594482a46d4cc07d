import Derived.Test.Qxb6604267aModsMatch
namespace Go.Proofs.Qxb6604267aMods.Law4
open Go.RowKit
open Glob MatchC

set_option maxHeartbeats 400000 in
theorem zz_yes (a b : ByteArray) (h : (a.size : Int) + b.size ≤ 1048576) (w : World) :
    Calls Trym.prog 12 #[.string a, .string b] w fun e w' => e = .returned (.bool true) ∧ w' = w := by
  go_enter Trym.func12, Trym.ntmps12
  go_wp2
  go_ret
  exact ⟨rfl, rfl⟩
set_option maxHeartbeats 400000 in
theorem zz_no (a b : ByteArray) (h : (1048576 : Int) < (a.size : Int) + b.size) (w : World) :
    Calls Trym.prog 12 #[.string a, .string b] w fun e w' => e = .returned (.bool false) ∧ w' = w := by
  by_cases h1 : (1048576 : Int) < a.size
  · go_enter Trym.func12, Trym.ntmps12
    go_wp2
    go_ret
    exact ⟨rfl, rfl⟩
  · by_cases h2 : (1048576 : Int) < b.size
    · go_enter Trym.func12, Trym.ntmps12
      go_wp2
      go_ret
      exact ⟨rfl, rfl⟩
    · go_enter Trym.func12, Trym.ntmps12
      go_wp2
      go_ret
      exact ⟨rfl, rfl⟩

set_option maxHeartbeats 400000 in
theorem zzmatch_any (pat name : ByteArray) (hp : (pat.size : Int) ≤ 1024) (hn : (name.size : Int) ≤ 1024) (w : World) :
    Calls Trym.prog 10 #[.string pat, .string name] w fun e w' => e = .returned (.bool (gmB pat name)) ∧ ∃ q, w' = w.drewN q := by
  go_enter Trym.func10, Trym.ntmps10
  go_wp2_with fail
  refine (match_any pat name hp hn _).mono ?_
  rintro e w1 ⟨rfl, q, rfl⟩
  go_wp2_with fail
  go_ret
  exact ⟨rfl, q, rfl⟩

def fixed (l : List UInt8) : Nat := (l.filter (fun c => c != 42)).length
theorem fixed_le (l : List UInt8) : fixed l ≤ l.length := List.length_filter_le _ _
theorem fixed_all (l : List UInt8) (h : fixed l = l.length) : 42 ∉ l := by
  intro hm
  have := List.length_filter_eq_length_iff.1 h 42 hm
  simp at this
theorem take_snoc (s : ByteArray) (k : Nat) (h : k < s.size) : s.data.toList.take (k + 1) = s.data.toList.take k ++ [s[k]] := by
  rw [List.take_succ_eq_append_getElem (by simpa using h)]; rfl
theorem fixed_hit (s : ByteArray) (k : Nat) (h : k < s.size) (hc : (s[k].toNat : Int) = 42) : fixed (s.data.toList.take (k + 1)) = fixed (s.data.toList.take k) := by
  have e : s[k] = 42 := byte_eq (b := 42) hc
  rw [take_snoc s k h, fixed, List.filter_append, e]; simp [fixed]
theorem fixed_miss (s : ByteArray) (k : Nat) (h : k < s.size) (hc : ¬ (s[k].toNat : Int) = 42) : fixed (s.data.toList.take (k + 1)) = fixed (s.data.toList.take k) + 1 := by
  have e : s[k] ≠ 42 := byte_ne (b := 42) hc
  rw [take_snoc s k h, fixed, List.filter_append, List.length_append, List.filter_cons_of_pos (by simpa using e)]; simp [fixed]

set_option maxHeartbeats 1000000 in
theorem walk4 (pat name : ByteArray) (w : World) :
    Calls Trym.prog 4 #[.string pat, .string name] w fun e w' => e = .returned (.bool true) ∧ Grown w w' := by
  by_cases h : (1048576 : Int) < (pat.size : Int) + name.size
  · go_enter Trym.func4, Trym.ntmps4
    go_wp2_with fail
    refine (zz_no pat name h _).mono ?_
    rintro e w1 ⟨rfl, rfl⟩
    go_wp2_with fail
    go_ret
    exact ⟨rfl, Grown.refl _⟩
  · by_cases hp : (1024 : Int) < pat.size
    · go_enter Trym.func4, Trym.ntmps4
      go_wp2_with fail
      refine (zz_yes pat name (by omega) _).mono ?_
      rintro e w1 ⟨rfl, rfl⟩
      go_wp2_with fail
      go_ret
      exact ⟨rfl, Grown.refl _⟩
    · by_cases hn : (1024 : Int) < name.size
      · go_enter Trym.func4, Trym.ntmps4
        go_wp2_with fail
        refine (zz_yes pat name (by omega) _).mono ?_
        rintro e w1 ⟨rfl, rfl⟩
        go_wp2_with fail
        go_ret
        exact ⟨rfl, Grown.refl _⟩
      · have hself : gmB pat pat = true := gm_self _
        cases hm : gmB pat name with
        | false =>
          go_enter Trym.func4, Trym.ntmps4
          go_wp2_with fail
          refine (zz_yes pat name (by omega) _).mono ?_
          rintro e w1 ⟨rfl, rfl⟩
          go_wp2_with fail
          refine (zzmatch_any pat pat (by omega) (by omega) _).mono ?_
          rintro e w2 ⟨rfl, q, rfl⟩
          go_wp2_with fail
          refine (zzmatch_any pat name (by omega) (by omega) _).mono ?_
          rintro e w3 ⟨rfl, q', rfl⟩
          go_wp2_with fail
          go_ret
          exact ⟨rfl, grown_drewN _ _⟩
        | true =>
          have hlen := gm_len _ _ hm
          have HL : Hid (fixed pat.data.toList ≤ name.size ∧ (fixed pat.data.toList = pat.size → name.size = pat.size)) := ⟨hlen.1, fun e => hlen.2 (fixed_all _ e)⟩
          clear hlen
          go_enter Trym.func4, Trym.ntmps4
          go_wp2_with fail
          refine (zz_yes pat name (by omega) _).mono ?_
          rintro e w1 ⟨rfl, rfl⟩
          go_wp2_with fail
          refine (zzmatch_any pat pat (by omega) (by omega) _).mono ?_
          rintro e w2 ⟨rfl, q, rfl⟩
          go_wp2_with fail
          refine (zzmatch_any pat name (by omega) (by omega) _).mono ?_
          rintro e w3 ⟨rfl, q', rfl⟩
          go_wp2_with fail
          go_loop [5, 6] (fun f i => ∃ k x : Nat, k ≤ pat.size ∧ x ≤ k ∧ Hid (x = fixed (pat.data.toList.take k)) ∧ f = .int .i64 x ∧ i = .int .i64 k) (fun _ i => pat.size - (intOf i).toNat)
          case atStart => exact ⟨0, 0, by omega, by omega, rfl, rfl, rfl⟩
          case round =>
            obtain ⟨k, x, hk, hx, HX, rfl, rfl⟩ := hrel
            by_cases hlt : k < pat.size
            · by_cases hs : (pat[k].toNat : Int) = 42
              · have HN : Hid (x = fixed (pat.data.toList.take (k + 1))) := HX.out.trans (fixed_hit pat k hlt hs).symm
                go_wp2_with fail
                go_round
                case rel => exact ⟨k + 1, x, by omega, by omega, HN, rfl, by go_num⟩
                case measure => simp [intOf]; omega
              · have HN : Hid (x + 1 = fixed (pat.data.toList.take (k + 1))) := by
                  rw [fixed_miss pat k hlt hs, ← HX.out]; exact rfl
                have hsb : ((pat[k].toNat : Int) == 42) = false := by simpa using hs
                go_wp2_with fail
                go_round
                case rel => exact ⟨k + 1, x + 1, by omega, by omega, HN, by go_num, by go_num⟩
                case measure => simp [intOf]; omega
            · have HF : Hid (x = fixed pat.data.toList) := by
                have e : pat.data.toList.take k = pat.data.toList := List.take_of_length_le (by show pat.size ≤ k; omega)
                rw [← e]; exact HX.out
              by_cases hf : (x : Int) = pat.size
              · have hnn : (name.size : Int) = pat.size := by
                  have h1 := HL.out.2
                  rw [← HF.out] at h1
                  have := h1 (by omega)
                  omega
                go_wp2_with fail
                go_ret
                exact ⟨ret_bool (by simp; try omega), grown_drewN _ _⟩
              · have hnn : (x : Int) ≤ name.size := by
                  have h1 := HL.out.1
                  rw [← HF.out] at h1
                  omega
                go_wp2_with fail
                go_ret
                exact ⟨ret_bool (by simp; try omega), grown_drewN _ _⟩
end Go.Proofs.Qxb6604267aMods.Law4
