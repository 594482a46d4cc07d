import Derived.Test.Qxb6604267aModsProg
import Derived.Test.Qxb6604267aModsDigits
import Derived.WalkKit
import Derived.WalkSpells
import Derived.WalkLawsBesides
import Derived.Laws.IdiomStrings
namespace Go.Proofs.Qxb6604267aMods.AccC
open Go.RowKit
open Digits

theorem grown_trans {a b c : World} (h : Grown a b) (k : Grown b c) : Grown a c :=
  ⟨World.keptBut_trans h.1 k.1, fun x => (k.2.1 x).trans (h.2.1 x), Nat.le_trans h.2.2 k.2.2⟩

theorem grown_iter (w : World) (s : ByteArray) (pos : Nat) : Grown w (w.iter s pos) := by
  refine ⟨World.keptBut_alloc _ _ _, fun a => ?_, by simp [World.iter]⟩
  by_cases h : a.block = w.heap.size
  · have e1 : (w.iter s pos).heap[a.block]? = some (.stringIter s pos) := by rw [h]; exact World.iter_heap w s pos
    have e2 : w.heap[a.block]? = none := by rw [h]; simp
    simp [World.frozen?, e1, e2]
  · exact World.frozen?_alloc_old _ _ _ h

theorem ret_bool {a b : Bool} (h : a = b) : Ending.returned (.bool a) = .returned (.bool b) := by rw [h]

def accB (s : ByteArray) : Bool := s.size == 12 && s.data.toList.all isDig

theorem acc_short (s : ByteArray) (h : s.size ≠ 12) : accB s = false := by simp [accB, h]
theorem acc_bad (s : ByteArray) (pos : Nat) (h : pos < s.size) (hb : isDig s[pos] = false) : accB s = false := by
  have : s.data.toList.all isDig = false := by
    rw [Bool.eq_false_iff]
    intro ha
    rw [List.all_eq_true] at ha
    have := ha s[pos] (by rw [Array.mem_toList_iff]; exact Array.getElem_mem h)
    rw [hb] at this; cases this
  simp [accB, this]
theorem acc_good (s : ByteArray) (h12 : (s.size : Int) = 12) (ha : (s.data.toList.take s.size).all isDig = true) : accB s = true := by
  have e : s.data.toList.take s.size = s.data.toList := List.take_of_length_le (Nat.le_of_eq rfl)
  rw [e] at ha
  simp only [accB, ha, Bool.and_true, beq_iff_eq]
  omega
theorem take_snoc (s : ByteArray) (k : Nat) (h : k < s.size) : s.data.toList.take (k + 1) = s.data.toList.take k ++ [s[k]] := by
  rw [List.take_succ_eq_append_getElem (by simpa using h)]; rfl
theorem all_snoc (s : ByteArray) (k : Nat) (h : k < s.size) (ha : (s.data.toList.take k).all isDig = true) (hd : isDig s[k] = true) : (s.data.toList.take (k + 1)).all isDig = true := by
  rw [take_snoc s k h, List.all_append, ha]; simp [hd]
theorem dec_lo (s : ByteArray) (pos : Nat) (h : pos < s.size) (hd : isDig s[pos] = true) : Utf8.decode s pos = (s[pos].toNat, 1) ∧ 48 ≤ s[pos].toNat ∧ s[pos].toNat ≤ 57 := by
  rw [isDig_iff] at hd
  exact ⟨decode_ascii s pos h (by omega), hd⟩
theorem dec_hi (s : ByteArray) (pos : Nat) (h : pos < s.size) (hd : isDig s[pos] = false) : (Utf8.decode s pos).1 < 48 ∨ 57 < (Utf8.decode s pos).1 := by
  have hd' : ¬ (48 ≤ s[pos].toNat ∧ s[pos].toNat ≤ 57) := by rw [← isDig_iff, hd]; simp
  by_cases ha : s[pos].toNat < 128
  · rw [decode_ascii s pos h ha]; simp only; omega
  · have := (decode_high s pos h (by omega)).1; omega

set_option maxHeartbeats 400000 in
theorem acc_any (s : ByteArray) (w : World) :
    Calls Trym.prog 21 #[.string s] w fun e w' => e = .returned (.bool (accB s)) ∧ Grown w w' := by
  by_cases h12 : (s.size : Int) = 12
  · go_enter Trym.func21, Trym.ntmps21
    go_wp2
    go_loopw [4] (fun _ wr => ∃ pos : Nat, wr = w.iter s pos ∧ pos ≤ s.size ∧ (s.data.toList.take pos).all isDig = true) (fun _ wr => s.size - wr.iterPos w.heap.size)
    case atStart => exact ⟨0, rfl, Nat.zero_le _, rfl⟩
    case round =>
      obtain ⟨pos, rfl, hle, hall⟩ := hrel
      by_cases hp : pos < s.size
      · cases hd : isDig s[pos] with
        | true =>
          obtain ⟨hde, h1, h2⟩ := dec_lo s pos hp hd
          have hnx : ∀ ty, (Instr.next (.pointer (some ⟨w.heap.size, 0, none⟩)) true ty).run Trym.prog (w.iter s pos) = .ok (.tuple #[.bool true, .int .i64 pos, .int .i32 s[pos].toNat]) (w.iter s (pos + 1)) := fun ty => by rw [run_next_any w s pos ty hp, hde]
          have hall' := all_snoc s pos hp hall hd
          clear hde hd hall
          go_wp2
          go_roundw
          case rel => exact ⟨pos + 1, rfl, by omega, hall'⟩
          case measure => simp; omega
        | false =>
          have hb := acc_bad s pos hp hd
          have hdh := dec_hi s pos hp hd
          have hnx : ∀ ty, (Instr.next (.pointer (some ⟨w.heap.size, 0, none⟩)) true ty).run Trym.prog (w.iter s pos) = _ := fun ty => run_next_any w s pos ty hp
          clear hd hall
          have HB : Hid (accB s = false) := hb
          clear hb
          generalize hgen : Utf8.decode s pos = de at hdh hnx
          clear hgen
          obtain ⟨r, wd⟩ := de
          simp only at hdh hnx
          have hr : ((r : Int) < 48) ∨ (57 < (r : Int)) := by omega
          clear hdh
          rcases hr with hr | hr
          · go_wp2
            go_ret
            exact ⟨ret_bool HB.out.symm, grown_iter _ _ _⟩
          · have hr' : ¬ ((r : Int) < 48) := by omega
            go_wp2
            go_ret
            exact ⟨ret_bool HB.out.symm, grown_iter _ _ _⟩
      · have hnx : ∀ ty, (Instr.next (.pointer (some ⟨w.heap.size, 0, none⟩)) true ty).run Trym.prog (w.iter s pos) = _ := fun ty => run_next_end w s pos ty hp
        have hps : pos = s.size := by omega
        have HB : Hid (accB s = true) := acc_good s h12 (by rw [← hps]; exact hall)
        clear hps hall
        go_wp2
        go_ret
        exact ⟨ret_bool HB.out.symm, grown_iter _ _ _⟩
  · go_enter Trym.func21, Trym.ntmps21
    go_wp2
    go_ret
    exact ⟨ret_bool (acc_short s (by omega)).symm, Grown.refl _⟩

/-! ### twelveDigits -/
/-- The array behind k rounds: zeros, then the k lowest digits. -/
def twA (n k : Nat) : List Value := List.replicate (12 - k) (.int .u8 0) ++ (tw k n).map (fun c => Value.int .u8 c.toNat)
theorem twA_set (n k : Nat) (hk : k < 12) : (twA n k).set (11 - k) (.int .u8 (dg (n / 10 ^ k)).toNat) = twA n (k + 1) := by
  unfold twA
  have e : 12 - k = (11 - k) + 1 := by omega
  rw [e, List.replicate_succ', List.append_assoc, List.set_append_right _ _ (by simp), show 12 - (k + 1) = 11 - k by omega]
  simp [tw]

theorem twA_at (n k j : Nat) (h : k + j = 11) : (twA n k).toArray[j]? = some (.int .u8 0) := by
  unfold twA
  rw [List.getElem?_toArray, List.getElem?_append_left (by simp; omega), List.getElem?_replicate, if_pos (by omega)]

theorem tw_conv (n : Nat) (w : World) : (convert 42 9 (.slice (some ⟨w.heap.size, 0, none⟩) 12 12)).run Trym.prog (w.alloc (.cells (twA n 12).toArray 5)) = .ok (.string ⟨(tw 12 n).toArray⟩) (w.alloc (.cells (twA n 12).toArray 5)) := by
  have h := run_convert_bytes_back (P := Trym.prog) (w.alloc (.cells (twA n 12).toArray 5)) 42 9 5 ⟨w.heap.size, 0, none⟩ 12 (tw 12 n) Trym.underlying42 Trym.underlying5 Trym.underlying9 (fun j hj => by
    have e : (⟨w.heap.size, 0, none⟩ : Addr).add j = ⟨w.heap.size, j, none⟩ := by
      unfold Addr.add
      split <;> simp_all
    rw [e, World.cell?_alloc_mark]
    simp [twA, List.getElem?_eq_getElem hj])
  rw [tw_length] at h
  exact h

theorem twA_step (n k v j : Nat) (hk : k + j = 11) (hv : v = n / 10 ^ k) : (twA n k).set j (.int .u8 (48 + (v : Int) % 10)) = twA n (k + 1) := by
  have h := twA_set n k (by omega)
  rw [dg_toNat, ← hv, show 11 - k = j by omega] at h
  rw [← h]
  congr 1
set_option maxHeartbeats 400000 in
theorem tw_any (n : Nat) (hn : n < 18446744073709551616) (w : World) :
    Calls Trym.prog 20 #[.int .u64 n] w fun e w' => e = .returned (.string ⟨(tw 12 n).toArray⟩) ∧ Grown w w' := by
  have hmk : ∀ w, (Instr.makeSlice 42 (.int .i64 12) (.int .i64 12)).run Trym.prog w = .ok (.slice (some ⟨w.heap.size, 0, none⟩) 12 12) (w.alloc (.cells (twA n 0).toArray 5)) := fun _ => by kernel_rfl
  go_enter Trym.func20, Trym.ntmps20
  go_wp2
  clear hmk
  go_loopw [0, 4] (fun a i wr => ∃ (k v : Nat) (i' : Int), (k : Int) + i' = 11 ∧ -1 ≤ i' ∧ Hid (v = n / 10 ^ k) ∧ a = .int .u64 v ∧ i = .int .i64 i' ∧ wr = w.alloc (.cells (twA n k).toArray 5)) (fun _ i _ => (intOf i + 1).toNat)
  case atStart => exact ⟨0, n, 11, by omega, by omega, by simp [Hid], rfl, rfl, rfl⟩
  case round =>
    obtain ⟨k, v, i', hk, hi, HV, rfl, rfl, rfl⟩ := hrel
    by_cases h0 : 0 ≤ i'
    · obtain ⟨j, rfl⟩ := Int.eq_ofNat_of_zero_le h0
      have hvb : (v : Int) < 18446744073709551616 := by
        have := Nat.div_le_self n (10 ^ k)
        have := HV.out
        omega
      have hcell : (w.alloc (.cells (twA n k).toArray 5)).cell? ⟨w.heap.size, j, none⟩ = some (.int .u8 0) := by
        rw [World.cell?_alloc_mark, twA_at n k j (by omega)]
      go_wp2
      go_roundw
      case rel =>
        exact ⟨k + 1, v / 10, (j : Int) - 1, by omega, by omega, by rw [HV.out, Nat.div_div_eq_div_mul, Nat.pow_succ]; exact rfl, by go_num, rfl, by rw [twA_step n k v j (by omega) HV.out]⟩
      case measure => simp [intOf]
    · have hk12 : k = 12 := by omega
      subst hk12
      have hcv := tw_conv n w
      go_wp2
      go_ret
      exact ⟨rfl, (Grown.refl _).alloc _ _⟩
end Go.Proofs.Qxb6604267aMods.AccC
