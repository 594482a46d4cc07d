import Derived.Test.Qxb6604267aModsMatch
namespace Go.Proofs.Qxb6604267aMods.TableC
open Go.RowKit
open Glob MatchC

/-- A row of the table: the first j places told, the others false. -/
def row (f : Nat → Bool) (j n : Nat) : Array Value := ((List.range n).map (fun i => Value.bool (if i < j then f i else false))).toArray
def row0 (n : Nat) : Array Value := row (fun _ => false) 0 n
theorem row_zero (f : Nat → Bool) (n : Nat) : row0 n = row f 0 n := by simp [row0, row]
theorem row_one (f : Nat → Bool) (n : Nat) (h : f 0 = false) : row0 n = row f 1 n := by
  simp only [row0, row]
  congr 1
  apply List.map_congr_left
  intro i _
  by_cases hi : i < 1
  · have : i = 0 := by omega
    subst this; simp [h]
  · simp [hi]
theorem row_set (f : Nat → Bool) (j n : Nat) : (row f j n).setIfInBounds j (.bool (f j)) = row f (j + 1) n := by
  apply Array.ext'
  simp only [row, Array.toList_setIfInBounds]
  apply List.ext_getElem
  · simp
  · intro i h1 h2
    simp only [List.getElem_set, List.getElem_map, List.getElem_range]
    by_cases he : j = i
    · subst he; simp
    · rw [if_neg he]
      by_cases hi : i < j
      · rw [if_pos hi, if_pos (by omega)]
      · rw [if_neg hi, if_neg (by omega)]
theorem row_at (f : Nat → Bool) (j n i : Nat) (hi : i < n) : (row f j n)[i]? = some (.bool (if i < j then f i else false)) := by
  simp [row, hi]
theorem row_size (f : Nat → Bool) (j n : Nat) : (row f j n).size = n := by simp [row]
theorem made_row (n : Nat) : madeCells #[.bool false] n = row0 n := by
  apply Array.ext'
  rw [toList_madeCells_one]
  apply List.ext_getElem
  · simp [row0, row]
  · intro i h1 h2
    simp [row0, row]

theorem info4 : (Trym.prog.info? 4).map (fun i => (i.zero, i.size, i.bytes)) = some (some (.bool false), 1, 1) := by kernel_rfl

theorem make_row (n : Nat) (hn : n ≤ 100000) (w : World) : (Instr.makeSlice 36 (.int .i64 (n : Int)) (.int .i64 (n : Int))).run Trym.prog w = .ok (.slice (some ⟨w.heap.size, 0, none⟩) n n) (w.alloc (.cells (row0 n) 4)) := by
  obtain ⟨i, hi, hz, hs, hb⟩ := info_parts info4
  have h := run_make (P := Trym.prog) w 36 4 i (.bool false) Trym.underlying36 hi hz .i64 .i64 n n (by omega) (Int.le_refl _) (by rw [hb]; omega) (by omega)
  rw [h, hs]
  simp [Value.cells, made_row]

/-- The table. -/
def tab (p n : ByteArray) (k j : Nat) : Bool := gm (p.data.toList.take k) (n.data.toList.take j)
theorem tab_end (p n : ByteArray) : tab p n p.size n.size = gmB p n := by
  unfold tab gmB
  have e : ∀ s : ByteArray, s.data.toList.take s.size = s.data.toList := fun s => List.take_of_length_le (Nat.le_of_eq rfl)
  rw [e, e]
theorem take_snoc (s : ByteArray) (k : Nat) (h : k < s.size) : s.data.toList.take (k + 1) = s.data.toList.take k ++ [s[k]] := by
  rw [List.take_succ_eq_append_getElem (by simpa using h)]; rfl
theorem t_star0 (p n : ByteArray) (k : Nat) (hk : k < p.size) (hc : (p[k].toNat : Int) = 42) : tab p n (k + 1) 0 = tab p n k 0 := by
  unfold tab; rw [take_snoc p k hk, byte_eq (b := 42) hc]; exact tab_star0 _
theorem t_star (p n : ByteArray) (k j : Nat) (hk : k < p.size) (hc : (p[k].toNat : Int) = 42) (hj : j < n.size) : tab p n (k + 1) (j + 1) = (tab p n k (j + 1) || tab p n (k + 1) j) := by
  unfold tab; rw [take_snoc p k hk, byte_eq (b := 42) hc]; exact tab_star _ _ j hj
theorem t_one0 (p n : ByteArray) (k : Nat) (hk : k < p.size) (hc : ¬ (p[k].toNat : Int) = 42) : tab p n (k + 1) 0 = false := by
  unfold tab; rw [take_snoc p k hk]; exact tab_one0 (byte_ne (b := 42) hc) _
theorem t_one (p n : ByteArray) (k j : Nat) (hk : k < p.size) (hc : ¬ (p[k].toNat : Int) = 42) (hj : j < n.size) : tab p n (k + 1) (j + 1) = (tab p n k j && (p[k] == 63 || p[k] == n[j])) := by
  unfold tab; rw [take_snoc p k hk]; exact tab_one (byte_ne (b := 42) hc) _ _ j hj
theorem t_first (p n : ByteArray) (j : Nat) (hj : j < n.size) : tab p n 0 (j + 1) = false := by
  unfold tab
  rw [Bool.eq_false_iff, List.take_zero]
  intro h
  rw [gm_nil, take_snoc n j hj] at h
  simp at h
theorem t_first0 (p n : ByteArray) : tab p n 0 0 = true := by simp [tab, gm]
/-- The first row. -/
theorem first_row (p n : ByteArray) (j : Nat) (hj : j ≤ n.size) : ((row0 (n.size + 1)).setIfInBounds 0 (.bool true))[j]? = some (.bool (tab p n 0 j)) := by
  have h := row_set (tab p n 0) 0 (n.size + 1)
  rw [t_first0] at h
  rw [row_zero (tab p n 0), h, row_at _ _ _ _ (by omega)]
  cases j with
  | zero => simp
  | succ j => simp [t_first p n j (by omega)]

end Go.Proofs.Qxb6604267aMods.TableC
