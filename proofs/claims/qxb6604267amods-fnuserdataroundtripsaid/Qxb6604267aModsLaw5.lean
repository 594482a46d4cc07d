import Derived.Test.Qxb6604267aModsLaw5a
import Derived.Test.Qxb6604267aModsLaw5b
import Derived.Test.Qxb6604267aModsLaw5c
namespace Go.Proofs.Qxb6604267aMods.Law5
open Go.RowKit
open Ud Rd Txt

set_option maxRecDepth 100000 in
set_option maxHeartbeats 2000000 in
theorem big (t a b c d e : ByteArray) (hs : (t.size : Int) + a.size + b.size + c.size + d.size + e.size ≤ 1048576)
    (hb : (65536 : Int) < t.size ∨ (65536 : Int) < a.size ∨ (65536 : Int) < b.size ∨ (65536 : Int) < c.size ∨ (65536 : Int) < d.size ∨ (65536 : Int) < e.size) (w : World) :
    Calls Trym.prog 5 #[.string t, .string a, .string b, .string c, .string d, .string e] w fun e w' => e = .returned (.bool true) ∧ Grown w w' := by
  have HB : Hid ((65536 : Int) < t.size ∨ (65536 : Int) < a.size ∨ (65536 : Int) < b.size ∨ (65536 : Int) < c.size ∨ (65536 : Int) < d.size ∨ (65536 : Int) < e.size) := hb
  clear hb
  go_enter Trym.func5, Trym.ntmps5
  go_wp2_with fail
  refine (zz_yes t a b c d e hs _).mono ?_
  rintro z w1 ⟨rfl, rfl⟩
  go_wp2_with fail
  all_goals first | (go_ret; exact ⟨rfl, Grown.refl _⟩) | (exfalso; have := HB.out; omega)

set_option maxRecDepth 100000 in
set_option maxHeartbeats 1000000 in
theorem long (t a b c d e : ByteArray) (hs : (1048576 : Int) < (t.size : Int) + a.size + b.size + c.size + d.size + e.size) (w : World) :
    Calls Trym.prog 5 #[.string t, .string a, .string b, .string c, .string d, .string e] w fun e w' => e = .returned (.bool true) ∧ Grown w w' := by
  go_enter Trym.func5, Trym.ntmps5
  go_wp2_with fail
  refine (zz_no t a b c d e hs _).mono ?_
  rintro z w1 ⟨rfl, rfl⟩
  go_wp2_with fail
  go_ret
  exact ⟨rfl, Grown.refl _⟩

theorem walk5 (t a b c d e : ByteArray) (w : World) :
    Calls Trym.prog 5 #[.string t, .string a, .string b, .string c, .string d, .string e] w fun e w' => e = .returned (.bool true) ∧ Grown w w' := by
  by_cases hs : (1048576 : Int) < (t.size : Int) + a.size + b.size + c.size + d.size + e.size
  · exact long t a b c d e hs w
  · by_cases hb : (65536 : Int) < t.size ∨ (65536 : Int) < a.size ∨ (65536 : Int) < b.size ∨ (65536 : Int) < c.size ∨ (65536 : Int) < d.size ∨ (65536 : Int) < e.size
    · exact big t a b c d e (by omega) hb w
    · cases na : a.toList.isEmpty with
      | false => exact more0 t a b c d e (by omega) (by omega) (by omega) (by omega) (by omega) (by omega) na w
      | true =>
        cases nb : b.toList.isEmpty with
        | false => rw [nil_of na]; exact more1 t b c d e (by omega) (by omega) (by omega) (by omega) (by omega) nb w
        | true =>
          cases nc : c.toList.isEmpty with
          | false => rw [nil_of na, nil_of nb]; exact more2 t c d e (by omega) (by omega) (by omega) (by omega) nc w
          | true =>
            cases nd : d.toList.isEmpty with
            | false => rw [nil_of na, nil_of nb, nil_of nc]; exact more3 t d e (by omega) (by omega) (by omega) nd w
            | true =>
              cases ne : e.toList.isEmpty with
              | false => rw [nil_of na, nil_of nb, nil_of nc, nil_of nd]; exact more4 t e (by omega) (by omega) ne w
              | true => rw [nil_of na, nil_of nb, nil_of nc, nil_of nd, nil_of ne]; exact zero t (by omega) w
end Go.Proofs.Qxb6604267aMods.Law5
