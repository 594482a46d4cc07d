import Derived.Test.Qxb6604267aModsGlobTable
namespace Go.Proofs.Qxb6604267aMods.Law3
open Go.RowKit
open Glob MatchC TableC

set_option maxHeartbeats 400000 in
theorem zz_yes (a b : ByteArray) (h : (a.size : Int) + b.size ≤ 1048576) (w : World) :
    Calls Trym.prog 9 #[.string a, .string b] w fun e w' => e = .returned (.bool true) ∧ w' = w := by
  go_enter Trym.func9, Trym.ntmps9
  go_wp2
  go_ret
  exact ⟨rfl, rfl⟩
set_option maxHeartbeats 400000 in
theorem zz_no (a b : ByteArray) (h : (1048576 : Int) < (a.size : Int) + b.size) (w : World) :
    Calls Trym.prog 9 #[.string a, .string b] w fun e w' => e = .returned (.bool false) ∧ w' = w := by
  by_cases h1 : (1048576 : Int) < a.size
  · go_enter Trym.func9, Trym.ntmps9
    go_wp2
    go_ret
    exact ⟨rfl, rfl⟩
  · by_cases h2 : (1048576 : Int) < b.size
    · go_enter Trym.func9, Trym.ntmps9
      go_wp2
      go_ret
      exact ⟨rfl, rfl⟩
    · go_enter Trym.func9, Trym.ntmps9
      go_wp2
      go_ret
      exact ⟨rfl, rfl⟩

set_option maxHeartbeats 400000 in
theorem zzmatch_any (pat name : ByteArray) (hp : (pat.size : Int) ≤ 1024) (hn : (name.size : Int) ≤ 1024) (w : World) :
    Calls Trym.prog 10 #[.string pat, .string name] w fun e w' => e = .returned (.bool (gmB pat name)) ∧ ∃ q, w' = w.drewN q := by
  go_enter Trym.func10, Trym.ntmps10
  go_wp2_with fail
  refine (match_any pat name hp hn _).mono ?_
  rintro e w1 ⟨rfl, q, rfl⟩
  go_wp2_with fail
  go_ret
  exact ⟨rfl, q, rfl⟩

theorem grown_trans {a b c : World} (h : Grown a b) (k : Grown b c) : Grown a c :=
  ⟨World.keptBut_trans h.1 k.1, fun x => (k.2.1 x).trans (h.2.1 x), Nat.le_trans h.2.2 k.2.2⟩

set_option maxHeartbeats 1000000 in
theorem walk3 (pat name : ByteArray) (w : World) :
    Calls Trym.prog 3 #[.string pat, .string name] w fun e w' => e = .returned (.bool true) ∧ Grown w w' := by
  by_cases h : (1048576 : Int) < (pat.size : Int) + name.size
  · go_enter Trym.func3, Trym.ntmps3
    go_wp2_with fail
    refine (zz_no pat name h _).mono ?_
    rintro e w1 ⟨rfl, rfl⟩
    go_wp2_with fail
    go_ret
    exact ⟨rfl, Grown.refl _⟩
  · by_cases hp : (1024 : Int) < pat.size
    · go_enter Trym.func3, Trym.ntmps3
      go_wp2_with fail
      refine (zz_yes pat name (by omega) _).mono ?_
      rintro e w1 ⟨rfl, rfl⟩
      go_wp2_with fail
      go_ret
      exact ⟨rfl, Grown.refl _⟩
    · by_cases hn : (1024 : Int) < name.size
      · go_enter Trym.func3, Trym.ntmps3
        go_wp2_with fail
        refine (zz_yes pat name (by omega) _).mono ?_
        rintro e w1 ⟨rfl, rfl⟩
        go_wp2_with fail
        go_ret
        exact ⟨rfl, Grown.refl _⟩
      · go_enter Trym.func3, Trym.ntmps3
        go_wp2_with fail
        refine (zz_yes pat name (by omega) _).mono ?_
        rintro e w1 ⟨rfl, rfl⟩
        go_wp2_with fail
        refine (zzmatch_any pat name (by omega) (by omega) _).mono ?_
        rintro e w2 ⟨rfl, q, rfl⟩
        go_wp2_with fail
        refine (table_any pat name (by omega) (by omega) _).mono ?_
        rintro e w3 ⟨rfl, hg⟩
        go_wp2_with fail
        go_ret
        exact ⟨ret_bool (by simp), grown_trans (grown_drewN _ _) hg⟩
end Go.Proofs.Qxb6604267aMods.Law3
