import Derived.Test.Qxb6604267aModsRead8
import Derived.Test.Qxb6604267aModsUdz
namespace Go.Proofs.Qxb6604267aMods.Txt
open Go.RowKit
open Ud Rd

theorem li0 (p0 p1 p2 p3 t : ByteArray) : (p0 ++ t ++ p1 ++ p2 ++ t ++ p3).data.toList = p0.data.toList ++ t.data.toList ++ p1.data.toList ++ p2.data.toList ++ t.data.toList ++ p3.data.toList := by
  simp only [ByteArray.data_append, Array.toList_append]
theorem li1 (p0 p4 p5 p6 p7 p8 p9 p10 p11 p12 p13 p14 p15 p16 p17 p18 t a b c d e : ByteArray) : (p0 ++ t ++ p4 ++ p5 ++ p6 ++ t ++ p7 ++ p8 ++ a ++ p9 ++ p10 ++ b ++ p11 ++ p12 ++ c ++ p13 ++ p14 ++ d ++ p15 ++ p16 ++ e ++ p17 ++ p18).data.toList = p0.data.toList ++ t.data.toList ++ p4.data.toList ++ p5.data.toList ++ p6.data.toList ++ t.data.toList ++ p7.data.toList ++ p8.data.toList ++ a.data.toList ++ p9.data.toList ++ p10.data.toList ++ b.data.toList ++ p11.data.toList ++ p12.data.toList ++ c.data.toList ++ p13.data.toList ++ p14.data.toList ++ d.data.toList ++ p15.data.toList ++ p16.data.toList ++ e.data.toList ++ p17.data.toList ++ p18.data.toList := by
  simp only [ByteArray.data_append, Array.toList_append]
theorem ud0_list (f : Func) (t : ByteArray) : (ud0 f t).data.toList = pt f 0 ++ t.data.toList ++ pt f 1 ++ pt f 2 ++ t.data.toList ++ pt f 3 := li0 ..
theorem ud1_list (f : Func) (t a b c d e : ByteArray) : (ud1 f t a b c d e).data.toList = pt f 0 ++ t.data.toList ++ pt f 4 ++ pt f 5 ++ pt f 6 ++ t.data.toList ++ pt f 7 ++ pt f 8 ++ a.data.toList ++ pt f 9 ++ pt f 10 ++ b.data.toList ++ pt f 11 ++ pt f 12 ++ c.data.toList ++ pt f 13 ++ pt f 14 ++ d.data.toList ++ pt f 15 ++ pt f 16 ++ e.data.toList ++ pt f 17 ++ pt f 18 := li1 ..

theorem p0 : pt Trym.f28 0 = kHead ++ (pt Trym.f28 0).drop 10 := by kernel_rfl
theorem p1 : pt Trym.f28 1 = [46, 10] := by kernel_rfl
theorem p2 : 10 :: pt Trym.f28 2 = kExe := by kernel_rfl
theorem p3 : pt Trym.f28 3 = [39, 10] := by kernel_rfl
theorem p5 : pt Trym.f28 5 = (pt Trym.f28 5).dropLast ++ [10] := by kernel_rfl
theorem p6 : 10 :: pt Trym.f28 6 = kTab := by kernel_rfl
theorem p7 : pt Trym.f28 7 = [39, 10] := by kernel_rfl
theorem p8 : pt Trym.f28 8 = kN1 ++ [61, 39] := by kernel_rfl
theorem p9 : pt Trym.f28 9 = [39, 10] := by kernel_rfl
theorem p10 : pt Trym.f28 10 = kN2 ++ [61, 39] := by kernel_rfl
theorem p11 : pt Trym.f28 11 = [39, 10] := by kernel_rfl
theorem p12 : pt Trym.f28 12 = kN3 ++ [61, 39] := by kernel_rfl
theorem p13 : pt Trym.f28 13 = [39, 10] := by kernel_rfl
theorem p14 : pt Trym.f28 14 = kN4 ++ [61, 39] := by kernel_rfl
theorem p15 : pt Trym.f28 15 = [39, 10] := by kernel_rfl
theorem p16 : pt Trym.f28 16 = kN5 ++ [61, 39] := by kernel_rfl
theorem p17 : pt Trym.f28 17 = [39, 10] := by kernel_rfl
theorem c0 : cm (pt Trym.f28 0) = true := by kernel_rfl
theorem c45 : cm (pt Trym.f28 4 ++ (pt Trym.f28 5).dropLast) = true := by kernel_rfl
theorem n2 : (pt Trym.f28 2).all (fun x => x != 10) = true := by kernel_rfl
theorem e2 : (pt Trym.f28 2)[0]? = some 101 := by kernel_rfl

theorem head (X : List UInt8) : pt Trym.f28 0 ++ X = kHead ++ ((pt Trym.f28 0).drop 10 ++ X) := by rw [← List.append_assoc, ← p0]

/-- The zero Install's text, read back. -/
theorem back0 (t : ByteArray) (hs : (t.size : Int) ≤ 65536) (ht : Tidy t.data.toList) (sc : ByteArray) (w : World) :
    Calls Trym.prog 16 #[.string (ud0 Trym.f28 t), .string sc] w fun e w' => e = .returned (.agg #[.string t, .string ⟨#[]⟩, .string ⟨#[]⟩, .string ⟨#[]⟩, .string ⟨#[]⟩, .string ⟨#[]⟩, .bool false, .bool true]) ∧ Grown w w' := by
  obtain ⟨K, hK, hsz⟩ := ud0_size
  have h1 := hsz t
  have hl := ud0_list Trym.f28 t
  have hL : (ud0 Trym.f28 t).data.toList = (pt Trym.f28 0 ++ t.data.toList ++ [46]) ++ kExe ++ t.data.toList ++ [39, 10] := by
    rw [hl, p1, p3, ← p2]; simp
  have hnl : 10 ∉ pt Trym.f28 2 := by
    intro hm
    have := List.all_eq_true.1 n2 10 hm
    simp at this
  refine read_short (ud0 Trym.f28 t) sc t (pt Trym.f28 0 ++ t.data.toList ++ [46]) ((pt Trym.f28 0).drop 10 ++ t.data.toList ++ [46]) (pt Trym.f28 2 ++ t.data.toList ++ [39]) (by omega) hL
    (cm_append _ _ (cm_append _ _ c0 (cm_clean _ ht.2)) rfl) ?_ ?_ ?_ ?_ ht.1 w
  · rw [← List.append_assoc, ← List.append_assoc, ← p0]
  · rw [hL, ← p2]; simp
  · simp only [List.mem_append, not_or]
    exact ⟨⟨hnl, ht.2⟩, by decide⟩
  · rw [List.append_assoc, List.getElem?_append_left (List.getElem?_eq_some_iff.1 e2).1]; exact e2

/-- Every other Install's text, read back. -/
theorem back1 (t a b c d e : ByteArray) (hs : (t.size : Int) ≤ 65536) (ha : (a.size : Int) ≤ 65536) (hb : (b.size : Int) ≤ 65536) (hc : (c.size : Int) ≤ 65536) (hd : (d.size : Int) ≤ 65536) (he : (e.size : Int) ≤ 65536)
    (ht : Tidy t.data.toList) (qa : 39 ∉ a.data.toList) (qb : 39 ∉ b.data.toList) (qc : 39 ∉ c.data.toList) (qd : 39 ∉ d.data.toList) (qe : 39 ∉ e.data.toList) (sc : ByteArray) (hsc : sc.data.toList = pt Trym.f28 18) (w : World) :
    Calls Trym.prog 16 #[.string (ud1 Trym.f28 t a b c d e), .string sc] w fun z w' => z = .returned (.agg #[.string t, .string a, .string b, .string c, .string d, .string e, .bool true, .bool true]) ∧ Grown w w' := by
  obtain ⟨K, hK, hsz⟩ := ud1_size
  have h1 := hsz t a b c d e
  have hl := ud1_list Trym.f28 t a b c d e
  refine read_long (ud1 Trym.f28 t a b c d e) sc t a b c d e (pt Trym.f28 0 ++ t.data.toList ++ (pt Trym.f28 4 ++ (pt Trym.f28 5).dropLast)) ((pt Trym.f28 0).drop 10 ++ t.data.toList ++ (pt Trym.f28 4 ++ (pt Trym.f28 5).dropLast)) (by omega) ?_
    (cm_append _ _ (cm_append _ _ c0 (cm_clean _ ht.2)) c45) ?_ ht.1 qa qb qc qd qe w
  · rw [hl, hsc, p7, p8, p9, p10, p11, p12, p13, p14, p15, p16, p17, ← p6]
    have h5 := p5
    generalize pt Trym.f28 18 = z18
    generalize pt Trym.f28 5 = z5 at h5 ⊢
    generalize pt Trym.f28 6 = z6
    generalize pt Trym.f28 4 = z4
    generalize pt Trym.f28 0 = z0
    generalize z5.dropLast = y5 at h5 ⊢
    subst h5
    simp
  · rw [List.append_assoc, List.append_assoc]; exact head _
end Go.Proofs.Qxb6604267aMods.Txt
