import Derived.Test.Qxb6604267aModsUd
namespace Go.Proofs.Qxb6604267aMods.Ud
open Go.RowKit

set_option maxHeartbeats 400000 in
theorem zud_zero (t : ByteArray) (ht : (t.size : Int) ≤ 65536) (w : World) :
    Calls Trym.prog 17 #[.string t, .agg #[.string ⟨#[]⟩, .string ⟨#[]⟩, .string ⟨#[]⟩, .string ⟨#[]⟩, .string ⟨#[]⟩]] w fun e w' => e = .returned (.string (ud0 Trym.f28 t)) ∧ Grown w w' := by
  go_enter Trym.func17, Trym.ntmps17
  go_wp2_with fail
  refine (ud_zero t ht _).mono ?_
  rintro e w1 ⟨rfl, hg⟩
  go_wp2_with fail
  go_ret
  exact ⟨rfl, grown_trans ((Grown.refl _).alloc _ _) hg⟩

set_option maxHeartbeats 400000 in
theorem zud_more (t a b c d e : ByteArray) (ht : (t.size : Int) ≤ 65536) (ha : (a.size : Int) ≤ 65536) (hb : (b.size : Int) ≤ 65536) (hc : (c.size : Int) ≤ 65536) (hd : (d.size : Int) ≤ 65536) (he : (e.size : Int) ≤ 65536) (hz : allNil a b c d e = false) (w : World) :
    Calls Trym.prog 17 #[.string t, .agg #[.string a, .string b, .string c, .string d, .string e]] w fun z w' => z = .returned (.string (ud1 Trym.f28 t a b c d e)) ∧ Grown w w' := by
  have HZ : Hid (allNil a b c d e = false) := hz
  clear hz
  go_enter Trym.func17, Trym.ntmps17
  go_wp2_with fail
  refine (ud_more t a b c d e ht ha hb hc hd he HZ.out _).mono ?_
  rintro e w1 ⟨rfl, hg⟩
  go_wp2_with fail
  go_ret
  exact ⟨rfl, grown_trans ((Grown.refl _).alloc _ _) hg⟩

theorem B_size (l : List UInt8) : (B l).size = l.length := rfl
def K0 (f : Func) : Nat := (pt f 0).length + (pt f 1).length + (pt f 2).length + (pt f 3).length
def K1 (f : Func) : Nat := (pt f 0).length + (pt f 4).length + (pt f 5).length + (pt f 6).length + (pt f 7).length + (pt f 8).length + (pt f 9).length + (pt f 10).length + (pt f 11).length + (pt f 12).length + (pt f 13).length + (pt f 14).length + (pt f 15).length + (pt f 16).length + (pt f 17).length + (pt f 18).length
theorem sz0 (p0 p1 p2 p3 t : ByteArray) : (p0 ++ t ++ p1 ++ p2 ++ t ++ p3).size = p0.size + p1.size + p2.size + p3.size + 2 * t.size := by
  simp only [ByteArray.size_append]; omega
theorem sz1 (p0 p4 p5 p6 p7 p8 p9 p10 p11 p12 p13 p14 p15 p16 p17 p18 t a b c d e : ByteArray) : (p0 ++ t ++ p4 ++ p5 ++ p6 ++ t ++ p7 ++ p8 ++ a ++ p9 ++ p10 ++ b ++ p11 ++ p12 ++ c ++ p13 ++ p14 ++ d ++ p15 ++ p16 ++ e ++ p17 ++ p18).size = p0.size + p4.size + p5.size + p6.size + p7.size + p8.size + p9.size + p10.size + p11.size + p12.size + p13.size + p14.size + p15.size + p16.size + p17.size + p18.size + 2 * t.size + a.size + b.size + c.size + d.size + e.size := by
  simp only [ByteArray.size_append]; omega
theorem ud0_of (f : Func) (t : ByteArray) : (ud0 f t).size = K0 f + 2 * t.size := sz0 ..
theorem ud1_of (f : Func) (t a b c d e : ByteArray) : (ud1 f t a b c d e).size = K1 f + 2 * t.size + a.size + b.size + c.size + d.size + e.size := sz1 ..
theorem ud0_size : ∃ K : Nat, K ≤ 10000 ∧ ∀ t, (ud0 Trym.f28 t).size = K + 2 * t.size := ⟨K0 Trym.f28, by decide +kernel, ud0_of _⟩
theorem ud1_size : ∃ K : Nat, K ≤ 10000 ∧ ∀ t a b c d e, (ud1 Trym.f28 t a b c d e).size = K + 2 * t.size + a.size + b.size + c.size + d.size + e.size := ⟨K1 Trym.f28, by decide +kernel, ud1_of _⟩

set_option maxHeartbeats 1000000 in
theorem zz_yes (t a b c d e : ByteArray) (h : (t.size : Int) + a.size + b.size + c.size + d.size + e.size ≤ 1048576) (w : World) :
    Calls Trym.prog 18 #[.string t, .string a, .string b, .string c, .string d, .string e] w fun z w' => z = .returned (.bool true) ∧ w' = w := by
  go_enter Trym.func18, Trym.ntmps18
  go_wp2
  go_ret
  exact ⟨rfl, rfl⟩
set_option maxHeartbeats 1000000 in
theorem zz_no (t a b c d e : ByteArray) (h : (1048576 : Int) < (t.size : Int) + a.size + b.size + c.size + d.size + e.size) (w : World) :
    Calls Trym.prog 18 #[.string t, .string a, .string b, .string c, .string d, .string e] w fun z w' => z = .returned (.bool false) ∧ w' = w := by
  go_enter Trym.func18, Trym.ntmps18
  go_wp2
  all_goals first | (exfalso; omega) | (go_ret; exact ⟨rfl, rfl⟩)
end Go.Proofs.Qxb6604267aMods.Ud
