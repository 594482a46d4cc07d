import Derived.Test.Qxb6604267aModsRead7
namespace Go.Proofs.Qxb6604267aMods.Rd
open Go.RowKit

theorem sizeL (s : ByteArray) : s.data.toList.length = s.size := rfl

/-- The zero Install's user data, read. -/
theorem read_short (out sc t : ByteArray) (C C' D : List UInt8) (hs : (out.size : Int) ≤ 1000000) (hS : out.data.toList = C ++ kExe ++ t.data.toList ++ [39, 10]) (hC : cm C = true) (hH : C = kHead ++ C')
    (hD : out.data.toList = C ++ 10 :: (D ++ [10])) (hD0 : 10 ∉ D) (hD1 : D[0]? = some 101) (ht : 39 ∉ t.data.toList) (w : World) :
    Calls Trym.prog 16 #[.string out, .string sc] w fun e w' => e = .returned (.agg #[.string t, .string ⟨#[]⟩, .string ⟨#[]⟩, .string ⟨#[]⟩, .string ⟨#[]⟩, .string ⟨#[]⟩, .bool false, .bool true]) ∧ Grown w w' := by
  have hsz := size_of hS
  have hke : kExe.length = 30 := rfl
  simp only [List.length_append, List.length_cons, List.length_nil, sizeL, hke] at hsz
  have hex : (out.extract 0 C.length).data.toList = C := extract_head (R := kExe ++ t.data.toList ++ [39, 10]) (by rw [hS]; simp)
  refine read_short_core out sc t C.length (by omega) hs ?_ ?_ ?_ ?_ ?_ ?_ w
  · intro h
    rw [at_idx hS (C.length + 30 + t.size + 1) (by omega) (x := 10) (by
      rw [List.getElem?_append_right (by simp only [List.length_append, hke, sizeL]; omega)]
      simp only [List.length_append, hke, sizeL]
      rw [show C.length + 30 + t.size + 1 - (C.length + 30 + t.size) = 1 by omega]
      rfl)]
    rfl
  · exact fun w => at_list out ⟨#[35, 33, 47, 98, 105, 110, 47, 115, 104, 10]⟩ [] (C' ++ kExe ++ t.data.toList ++ [39, 10]) 0 hs (by rw [hS, hH]; simp [kHead]) rfl w
  · exact fun w => find_list_none out ⟨#[10, 116, 97, 98, 108, 101, 61, 39]⟩ C D 116 hs (by decide) hD hC rfl rfl (by decide) hD0 (by rw [hD1]; decide) (by have := (List.getElem?_eq_some_iff.1 hD1).1; omega) w
  · exact fun w => find_list out ⟨#[10, 101, 120, 101, 99, 32, 105, 100, 108, 101, 119, 105, 108, 100, 32, 97, 103, 101, 110, 116, 32, 45, 45, 116, 97, 98, 108, 101, 32, 39]⟩ C (t.data.toList ++ [39, 10]) 101 hs (by rw [hS]; simp [kExe]) hC rfl rfl (by decide) w
  · exact fun w => comments_list (out.extract 0 C.length) (by rw [size_of hex]; omega) (by rw [hex, hH]; rfl) (by rw [hex]; exact hC) w
  · exact fun w => quoted_list out t (C ++ kExe) [10] ((C.length : Int) + 30) ((C.length : Int) + 30 + t.size) hs (by rw [hS]) ht (by simp [hke]) (by simp [hke]) w

set_option maxRecDepth 100000 in
set_option maxHeartbeats 1000000 in
/-- Every other Install's user data, read. -/
theorem read_long (out sc t a b c d e : ByteArray) (C C' : List UInt8) (hs : (out.size : Int) ≤ 1000000)
    (hS : out.data.toList = C ++ kTab ++ t.data.toList ++ 39 :: ((10 :: kN1 ++ [61, 39]) ++ a.data.toList ++ 39 :: ((10 :: kN2 ++ [61, 39]) ++ b.data.toList ++ 39 :: ((10 :: kN3 ++ [61, 39]) ++ c.data.toList ++ 39 :: ((10 :: kN4 ++ [61, 39]) ++ d.data.toList ++ 39 :: ((10 :: kN5 ++ [61, 39]) ++ e.data.toList ++ 39 :: (10 :: sc.data.toList)))))))
    (hC : cm C = true) (hH : C = kHead ++ C') (ht : 39 ∉ t.data.toList) (ha : 39 ∉ a.data.toList) (hb : 39 ∉ b.data.toList) (hc : 39 ∉ c.data.toList) (hd : 39 ∉ d.data.toList) (he : 39 ∉ e.data.toList) (w : World) :
    Calls Trym.prog 16 #[.string out, .string sc] w fun z w' => z = .returned (.agg #[.string t, .string a, .string b, .string c, .string d, .string e, .bool true, .bool true]) ∧ Grown w w' := by
  have hsz := size_of hS
  have hk0 : kTab.length = 8 := rfl
  have hk1 : kN1.length = 12 := rfl
  have hk2 : kN2.length = 15 := rfl
  have hk3 : kN3.length = 10 := rfl
  have hk4 : kN4.length = 13 := rfl
  have hk5 : kN5.length = 4 := rfl
  simp only [List.length_append, List.length_cons, List.length_nil, sizeL, hk0, hk1, hk2, hk3, hk4, hk5] at hsz
  have hex : (out.extract 0 C.length).data.toList = C := extract_head (by rw [hS, List.append_assoc, List.append_assoc])
  obtain ⟨U1, hU1⟩ : ∃ U, U = C ++ kTab ++ t.data.toList ++ [39] := ⟨_, rfl⟩
  have lU1 : U1.length = C.length + 8 + t.size + 1 := by rw [hU1]; simp only [List.length_append, List.length_cons, List.length_nil, sizeL, hk0]
  obtain ⟨U2, hU2⟩ : ∃ U, U = U1 ++ (10 :: kN1 ++ [61, 39]) ++ a.data.toList ++ [39] := ⟨_, rfl⟩
  have lU2 : U2.length = U1.length + 12 + 3 + a.size + 1 := by rw [hU2]; simp only [List.length_append, List.length_cons, List.length_nil, sizeL, hk1]
  obtain ⟨U3, hU3⟩ : ∃ U, U = U2 ++ (10 :: kN2 ++ [61, 39]) ++ b.data.toList ++ [39] := ⟨_, rfl⟩
  have lU3 : U3.length = U2.length + 15 + 3 + b.size + 1 := by rw [hU3]; simp only [List.length_append, List.length_cons, List.length_nil, sizeL, hk2]
  obtain ⟨U4, hU4⟩ : ∃ U, U = U3 ++ (10 :: kN3 ++ [61, 39]) ++ c.data.toList ++ [39] := ⟨_, rfl⟩
  have lU4 : U4.length = U3.length + 10 + 3 + c.size + 1 := by rw [hU4]; simp only [List.length_append, List.length_cons, List.length_nil, sizeL, hk3]
  obtain ⟨U5, hU5⟩ : ∃ U, U = U4 ++ (10 :: kN4 ++ [61, 39]) ++ d.data.toList ++ [39] := ⟨_, rfl⟩
  have lU5 : U5.length = U4.length + 13 + 3 + d.size + 1 := by rw [hU5]; simp only [List.length_append, List.length_cons, List.length_nil, sizeL, hk4]
  obtain ⟨U6, hU6⟩ : ∃ U, U = U5 ++ (10 :: kN5 ++ [61, 39]) ++ e.data.toList ++ [39] := ⟨_, rfl⟩
  have lU6 : U6.length = U5.length + 4 + 3 + e.size + 1 := by rw [hU6]; simp only [List.length_append, List.length_cons, List.length_nil, sizeL, hk5]
  refine read_long_core out sc t a b c d e C.length ((C.length : Int) + 8 + t.size) ((U1.length : Int) + 12 + 3 + a.size) ((U2.length : Int) + 15 + 3 + b.size) ((U3.length : Int) + 10 + 3 + c.size) ((U4.length : Int) + 13 + 3 + d.size) ((U5.length : Int) + 4 + 3 + e.size) hs (by omega) (by omega) (by omega) (by omega) (by omega) (by omega) (by omega) (by omega) (by omega) (by omega) (by omega) (by omega) (by omega) ?_ ?_ ?_ ?_ ?_ ?_ ?_ ?_ ?_ ?_ ?_ w
  · exact fun w => at_list out ⟨#[35, 33, 47, 98, 105, 110, 47, 115, 104, 10]⟩ [] (C' ++ kTab ++ t.data.toList ++ 39 :: ((10 :: kN1 ++ [61, 39]) ++ a.data.toList ++ 39 :: ((10 :: kN2 ++ [61, 39]) ++ b.data.toList ++ 39 :: ((10 :: kN3 ++ [61, 39]) ++ c.data.toList ++ 39 :: ((10 :: kN4 ++ [61, 39]) ++ d.data.toList ++ 39 :: ((10 :: kN5 ++ [61, 39]) ++ e.data.toList ++ 39 :: (10 :: sc.data.toList))))))) 0 hs (by rw [hS, hH]; simp [kHead]) rfl w
  · exact fun w => find_list out ⟨#[10, 116, 97, 98, 108, 101, 61, 39]⟩ C (t.data.toList ++ 39 :: ((10 :: kN1 ++ [61, 39]) ++ a.data.toList ++ 39 :: ((10 :: kN2 ++ [61, 39]) ++ b.data.toList ++ 39 :: ((10 :: kN3 ++ [61, 39]) ++ c.data.toList ++ 39 :: ((10 :: kN4 ++ [61, 39]) ++ d.data.toList ++ 39 :: ((10 :: kN5 ++ [61, 39]) ++ e.data.toList ++ 39 :: (10 :: sc.data.toList))))))) 116 hs (by rw [hS]; simp [kTab]) hC rfl rfl (by decide) w
  · exact fun w => comments_list (out.extract 0 C.length) (by rw [size_of hex]; omega) (by rw [hex, hH]; rfl) (by rw [hex]; exact hC) w
  · exact fun w => quoted_list out t (C ++ kTab) ((10 :: kN1 ++ [61, 39]) ++ a.data.toList ++ 39 :: ((10 :: kN2 ++ [61, 39]) ++ b.data.toList ++ 39 :: ((10 :: kN3 ++ [61, 39]) ++ c.data.toList ++ 39 :: ((10 :: kN4 ++ [61, 39]) ++ d.data.toList ++ 39 :: ((10 :: kN5 ++ [61, 39]) ++ e.data.toList ++ 39 :: (10 :: sc.data.toList)))))) ((C.length : Int) + 8) _ hs hS ht (by simp [hk0]) (by simp [hk0]) w
  · exact fun w => field_list out ⟨#[105, 100, 108, 101, 119, 105, 108, 100, 95, 117, 114, 108]⟩ a U1 ((10 :: kN2 ++ [61, 39]) ++ b.data.toList ++ 39 :: ((10 :: kN3 ++ [61, 39]) ++ c.data.toList ++ 39 :: ((10 :: kN4 ++ [61, 39]) ++ d.data.toList ++ 39 :: ((10 :: kN5 ++ [61, 39]) ++ e.data.toList ++ 39 :: (10 :: sc.data.toList))))) _ _ hs (by rw [hS, hU1]; simp [kN1]) ha (by omega) rfl w
  · exact fun w => field_list out ⟨#[105, 100, 108, 101, 119, 105, 108, 100, 95, 115, 104, 97, 50, 53, 54]⟩ b U2 ((10 :: kN3 ++ [61, 39]) ++ c.data.toList ++ 39 :: ((10 :: kN4 ++ [61, 39]) ++ d.data.toList ++ 39 :: ((10 :: kN5 ++ [61, 39]) ++ e.data.toList ++ 39 :: (10 :: sc.data.toList)))) _ _ hs (by rw [hS, hU2, hU1]; simp [kN2]) hb (by omega) rfl w
  · exact fun w => field_list out ⟨#[114, 117, 110, 110, 101, 114, 95, 117, 114, 108]⟩ c U3 ((10 :: kN4 ++ [61, 39]) ++ d.data.toList ++ 39 :: ((10 :: kN5 ++ [61, 39]) ++ e.data.toList ++ 39 :: (10 :: sc.data.toList))) _ _ hs (by rw [hS, hU3, hU2, hU1]; simp [kN3]) hc (by omega) rfl w
  · exact fun w => field_list out ⟨#[114, 117, 110, 110, 101, 114, 95, 115, 104, 97, 50, 53, 54]⟩ d U4 ((10 :: kN5 ++ [61, 39]) ++ e.data.toList ++ 39 :: (10 :: sc.data.toList)) _ _ hs (by rw [hS, hU4, hU3, hU2, hU1]; simp [kN4]) hd (by omega) rfl w
  · exact fun w => field_list out ⟨#[117, 115, 101, 114]⟩ e U5 (10 :: sc.data.toList) _ _ hs (by rw [hS, hU5, hU4, hU3, hU2, hU1]; simp [kN5]) he (by omega) rfl w
  · exact fun w => at_list out ⟨#[10]⟩ U6 sc.data.toList _ hs (by rw [hS, hU6, hU5, hU4, hU3, hU2, hU1]; simp) (by omega) w
  · exact fun w => at_list out sc (U6 ++ [10]) [] _ hs (by rw [hS, hU6, hU5, hU4, hU3, hU2, hU1]; simp) (by simp only [List.length_append, List.length_cons, List.length_nil]; omega) w
end Go.Proofs.Qxb6604267aMods.Rd
