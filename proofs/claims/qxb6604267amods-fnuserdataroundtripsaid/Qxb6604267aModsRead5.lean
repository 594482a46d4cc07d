import Derived.Test.Qxb6604267aModsRead4
namespace Go.Proofs.Qxb6604267aMods.Rd
open Go.RowKit

/-- Every line break is followed by a '#'. -/
def cm : List UInt8 → Bool
  | [] => true
  | [x] => x != 10
  | x :: y :: r => (x != 10 || y == 35) && cm (y :: r)
theorem cm_clean (l : List UInt8) (h : 10 ∉ l) : cm l = true := by
  induction l with
  | nil => rfl
  | cons x r ih =>
    have hx : x ≠ 10 := fun e => h (by simp [e])
    have hr : 10 ∉ r := fun e => h (List.mem_cons_of_mem _ e)
    cases r with
    | nil => simp [cm, hx]
    | cons y r => simp only [cm, ih hr]; simp [hx]
theorem cm_append (a b : List UInt8) (ha : cm a = true) (hb : cm b = true) : cm (a ++ b) = true := by
  induction a with
  | nil => exact hb
  | cons x r ih =>
    cases r with
    | nil =>
      simp only [cm, bne_iff_ne, ne_eq] at ha
      cases b with
      | nil => simp [cm, ha]
      | cons y b => simp [cm, ha, hb]
    | cons y r =>
      simp only [cm, Bool.and_eq_true] at ha
      simp only [List.cons_append, cm, ha.1, Bool.true_and]
      exact ih ha.2
theorem cm_next (l : List UInt8) (h : cm l = true) (i : Nat) (hi : l[i]? = some 10) : l[i + 1]? = some 35 := by
  induction l generalizing i with
  | nil => simp at hi
  | cons x r ih =>
    cases r with
    | nil =>
      cases i with
      | zero => simp at hi; simp [cm, hi] at h
      | succ i => simp at hi
    | cons y r =>
      simp only [cm, Bool.and_eq_true] at h
      cases i with
      | zero => simp at hi; simp [hi] at h; simp [h.1]
      | succ i => simpa using ih h.2 i (by simpa using hi)

theorem comments_list (s : ByteArray) (hs : (s.size : Int) ≤ 1000000) (h0 : s.data.toList[0]? = some 35) (hc : cm s.data.toList = true) (w : World) :
    Calls Trym.prog 25 #[.string s] w fun e w' => e = .returned (.bool true) ∧ w' = w := by
  have hz : 0 < s.size := by
    rcases List.getElem?_eq_some_iff.1 h0 with ⟨h, _⟩
    exact h
  refine comments_yes s hs hz ?_ ?_ w
  · rw [at_idx rfl 0 hz h0]; rfl
  · intro i hi he
    have hb : s[i] = 10 := byte_eq (b := 10) he
    have e : s.data.toList[i]? = some 10 := by rw [← hb]; exact List.getElem?_eq_getElem (show i < s.data.toList.length from hi)
    have h35 := cm_next _ hc i e
    rcases List.getElem?_eq_some_iff.1 h35 with ⟨h, _⟩
    exact ⟨h, by rw [at_idx rfl (i + 1) h h35]; rfl⟩

theorem extract_head {s : ByteArray} {C R : List UInt8} (hS : s.data.toList = C ++ R) : (s.extract 0 C.length).data.toList = C := by
  rw [ByteArray.data_extract, Array.toList_extract, List.extract_eq_take_drop, hS]
  simp

theorem at_no0 (S T : List UInt8) (j : Nat) (x : UInt8) (hT : T[0]? = some x) (h : S[j]? ≠ some x) : atL S j T = false := by
  unfold atL
  rw [Bool.eq_false_iff]
  intro e
  have := congrArg (fun l => l[0]?) (eq_of_beq e)
  have h0 : 0 < T.length := (List.getElem?_eq_some_iff.1 hT).1
  simp only [List.getElem?_take, h0, if_true, List.getElem?_drop, Nat.add_zero, hT] at this
  exact h this
theorem at_no1 (S T : List UInt8) (j : Nat) (x : UInt8) (hT : T[1]? = some x) (h : S[j + 1]? ≠ some x) : atL S j T = false := by
  unfold atL
  rw [Bool.eq_false_iff]
  intro e
  have := congrArg (fun l => l[1]?) (eq_of_beq e)
  have h0 : 1 < T.length := (List.getElem?_eq_some_iff.1 hT).1
  simp only [List.getElem?_take, h0, if_true, List.getElem?_drop, hT] at this
  exact h this
/-- Ahead of the comments' end no text that opens with a line break and no '#' stands. -/
theorem at_ahead (C R T : List UInt8) (x : UInt8) (hC : cm C = true) (h0 : T[0]? = some 10) (h1 : T[1]? = some x) (hx : x ≠ 35) (j : Nat) (hj : j < C.length) : atL (C ++ R) j T = false := by
  by_cases hn : C[j]? = some 10
  · have h35 := cm_next C hC j hn
    refine at_no1 _ T j x h1 ?_
    rw [List.getElem?_append_left (List.getElem?_eq_some_iff.1 h35).1, h35]
    intro e
    exact hx (Option.some.inj e).symm
  · refine at_no0 _ T j 10 h0 ?_
    rw [List.getElem?_append_left hj]
    exact hn

theorem find_list (s t : ByteArray) (C R : List UInt8) (x : UInt8) (hs : (s.size : Int) ≤ 1000000) (hS : s.data.toList = C ++ t.data.toList ++ R) (hC : cm C = true)
    (h0 : t.data.toList[0]? = some 10) (h1 : t.data.toList[1]? = some x) (hx : x ≠ 35) (w : World) :
    Calls Trym.prog 24 #[.string s, .string t] w fun e w' => e = .returned (.int .i64 (C.length : Int)) ∧ ∃ q, w' = w.drewN q := by
  have hsz := size_of hS
  have hl : t.data.toList.length = t.size := rfl
  simp only [List.length_append] at hsz
  refine find_hit s t C.length hs (by omega) (by omega) (at_mid hS) (fun j hj => ?_) w
  rw [hS, List.append_assoc]
  exact at_ahead C _ _ x hC h0 h1 hx j hj

theorem find_list_none (s t : ByteArray) (C D : List UInt8) (x : UInt8) (hs : (s.size : Int) ≤ 1000000) (ht : (t.size : Int) ≤ 1000000) (hS : s.data.toList = C ++ 10 :: (D ++ [10])) (hC : cm C = true)
    (h0 : t.data.toList[0]? = some 10) (h1 : t.data.toList[1]? = some x) (hx : x ≠ 35) (hD : 10 ∉ D) (hD0 : D[0]? ≠ some x) (hDl : 0 < D.length) (w : World) :
    Calls Trym.prog 24 #[.string s, .string t] w fun e w' => e = .returned (.int .i64 (-1)) ∧ ∃ q, w' = w.drewN q := by
  refine find_none s t hs ht (fun j => ?_) w
  rw [hS]
  by_cases hj : j < C.length
  · exact at_ahead C _ _ x hC h0 h1 hx j hj
  · by_cases hj1 : j = C.length
    · refine at_no1 _ _ j x h1 ?_
      rw [List.getElem?_append_right (by omega), hj1, show C.length + 1 - C.length = 0 + 1 by omega, List.getElem?_cons_succ, List.getElem?_append_left hDl]
      exact hD0
    · by_cases hj2 : j < C.length + 1 + D.length
      · refine at_no0 _ _ j 10 h0 ?_
        rw [List.getElem?_append_right (by omega), show j - C.length = (j - C.length - 1) + 1 by omega, List.getElem?_cons_succ, List.getElem?_append_left (by omega)]
        intro e
        exact hD (List.mem_of_getElem? e)
      · refine at_no1 _ _ j x h1 ?_
        rw [List.getElem?_eq_none (by simp; omega)]
        simp

end Go.Proofs.Qxb6604267aMods.Rd
