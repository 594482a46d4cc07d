import Derived.Test.Qxb6604267aModsTable
import Derived.Laws.IdiomStrings
namespace Go.Proofs.Qxb6604267aMods.TableC
open Go.RowKit
open Glob MatchC

theorem row_put (f : Nat → Bool) (j n : Nat) (v : Bool) (h : f j = v) : (row f j n).setIfInBounds j (.bool v) = row f (j + 1) n := by
  rw [← h]; exact row_set f j n
theorem row_start (f : Nat → Bool) (n : Nat) (v : Bool) (h : f 0 = v) : (row0 n).setIfInBounds 0 (.bool v) = row f 1 n := by
  rw [row_zero f]; exact row_put f 0 n v h
theorem row_cells (f : Nat → Bool) (n : Nat) (w : World) (j : Nat) (hj : j ≤ n) : (w.alloc (.cells (row f (n + 1) (n + 1)) 4)).cell? ⟨w.heap.size, j, none⟩ = some (.bool (f j)) := by
  rw [World.cell?_alloc_mark, row_at _ _ _ _ (by omega), if_pos (by omega)]
theorem row_here (f : Nat → Bool) (i n : Nat) (hi : i < n) : (row f (i + 1) (n + 1))[i + 1]? = some (.bool false) := by
  rw [row_at _ _ _ _ (by omega), if_neg (by omega)]
theorem row_back (f : Nat → Bool) (i n : Nat) (hi : i < n) : (row f (i + 1) (n + 1))[i]? = some (.bool (f i)) := by
  rw [row_at _ _ _ _ (by omega), if_pos (by omega)]

theorem row_back' (f : Nat → Bool) (i n : Nat) (hi : i < n) (h : i < (row f (i + 1) (n + 1)).size) : (row f (i + 1) (n + 1))[i]'h = .bool (f i) := by
  have := row_back f i n hi
  rw [Array.getElem?_eq_getElem h] at this
  exact Option.some.inj this

set_option maxHeartbeats 1000000 in
theorem table_any (pat name : ByteArray) (hp : (pat.size : Int) ≤ 1024) (hn : (name.size : Int) ≤ 1024) (w : World) :
    Calls Trym.prog 11 #[.string pat, .string name] w fun e w' => e = .returned (.bool (gmB pat name)) ∧ Grown w w' := by
  have hmk := make_row (name.size + 1) (by omega)
  have ec : ((name.size + 1 : Nat) : Int) = (name.size : Int) + 1 := by omega
  rw [ec] at hmk
  clear ec
  have hc0 : (row0 (name.size + 1))[0]? = some (.bool false) := by rw [row0, row_at _ _ _ _ (by omega)]; rfl
  have hz0 : (row0 (name.size + 1)).size = name.size + 1 := row_size _ _ _
  go_enter Trym.func11, Trym.ntmps11
  go_wp2
  go_loopw [6, 7] (fun a i wr => ∃ (k g : Nat), k ≤ pat.size ∧ a = .slice (some ⟨g, 0, none⟩) (name.size + 1) (name.size + 1) ∧ i = .int .i64 k ∧ g < wr.heap.size ∧ Grown w wr ∧ Hid (∀ j, j ≤ name.size → wr.cell? ⟨g, j, none⟩ = some (.bool (tab pat name k j)))) (fun _ i _ => pat.size - (intOf i).toNat)
  case atStart => exact ⟨0, w.heap.size, by omega, rfl, rfl, by simp, (Grown.refl _).alloc _ _, fun j hj => by rw [World.cell?_alloc_mark]; exact first_row pat name j hj⟩
  case round =>
    obtain ⟨k, g, hk, rfl, rfl, hg, hgr, HC⟩ := hrel
    by_cases hlt : k < pat.size
    · by_cases hs : (pat[k].toNat : Int) = 42
      · have hcg : wr.cell? ⟨g, 0, none⟩ = some (.bool (tab pat name k 0)) := HC.out 0 (by omega)
        have H0 : Hid (tab pat name (k + 1) 0 = tab pat name k 0) := t_star0 pat name k hlt hs
        have HS : Hid (∀ j, j < name.size → tab pat name (k + 1) (j + 1) = (tab pat name k (j + 1) || tab pat name (k + 1) j)) := fun j hj => t_star pat name k j hlt hs hj
        go_wp2
        clear hmk hc0 hz0 hcg
        go_loopw [10] (fun b wi => ∃ i : Nat, i ≤ name.size ∧ b = .int .i64 ((i : Int) + 1) ∧ wi = wr.alloc (.cells (row (tab pat name (k + 1)) (i + 1) (name.size + 1)) 4)) (fun b _ => name.size + 1 - (intOf b).toNat)
        case atStart => exact ⟨0, by omega, rfl, by rw [row_start _ _ _ H0.out]⟩
        case round =>
          obtain ⟨i, hi, rfl, rfl⟩ := hrel
          by_cases hil : i < name.size
          · have hw1 := row_here (tab pat name (k + 1)) i name.size hil
            have hw2 := row_back (tab pat name (k + 1)) i name.size hil
            have hw4 := row_back' (tab pat name (k + 1)) i name.size hil
            have hw3 := row_size (tab pat name (k + 1)) (i + 1) (name.size + 1)
            have hpv := HC.out (i + 1) (by omega)
            have hst := HS.out i hil
            cases hx : tab pat name k (i + 1) with
            | true =>
              rw [hx] at hpv hst
              have HW : Hid (tab pat name (k + 1) (i + 1) = true) := by rw [hst]; exact rfl
              clear hst hx
              go_wp2
              go_roundw
              case rel => exact ⟨i + 1, by omega, by go_num, by rw [row_put _ _ _ _ HW.out]⟩
              case measure => simp [intOf]; omega
            | false =>
              rw [hx] at hpv hst
              have HW : Hid (tab pat name (k + 1) (i + 1) = tab pat name (k + 1) i) := by rw [hst]; simp [Hid]
              clear hst hx
              go_wp2
              go_roundw
              case rel => exact ⟨i + 1, by omega, by go_num, by rw [row_put _ _ _ _ HW.out]⟩
              case measure => simp [intOf]; omega
          · have hie : i = name.size := by omega
            subst hie
            go_wp2
            go_roundw
            case rel => exact ⟨k + 1, wr.heap.size, by omega, rfl, by go_num, by simp, hgr.alloc _ _, fun j hj => row_cells _ _ _ _ hj⟩
            case measure => simp [intOf]; omega
      · have hsb : ((pat[k].toNat : Int) == 42) = false := by simpa using hs
        have H0 : Hid (tab pat name (k + 1) 0 = false) := t_one0 pat name k hlt hs
        have HS : Hid (∀ (j : Nat) (hj : j < name.size), tab pat name (k + 1) (j + 1) = (tab pat name k j && (pat[k] == 63 || pat[k] == name[j]))) := fun j hj => t_one pat name k j hlt hs hj
        go_wp2
        clear hmk hc0 hz0
        go_loopw [11] (fun b wi => ∃ i : Nat, i ≤ name.size ∧ b = .int .i64 ((i : Int) + 1) ∧ wi = wr.alloc (.cells (row (tab pat name (k + 1)) (i + 1) (name.size + 1)) 4)) (fun b _ => name.size + 1 - (intOf b).toNat)
        case atStart => exact ⟨0, by omega, rfl, by rw [row_one _ _ H0.out]⟩
        case round =>
          obtain ⟨i, hi, rfl, rfl⟩ := hrel
          by_cases hil : i < name.size
          · have hw1 := row_here (tab pat name (k + 1)) i name.size hil
            have hw3 := row_size (tab pat name (k + 1)) (i + 1) (name.size + 1)
            have hpv := HC.out i (by omega)
            have hst := HS.out i hil
            cases hx : tab pat name k i with
            | false =>
              rw [hx] at hpv hst
              have HW : Hid (tab pat name (k + 1) (i + 1) = false) := by rw [hst]; exact rfl
              clear hst hx
              go_wp2
              go_roundw
              case rel => exact ⟨i + 1, by omega, by go_num, by rw [row_put _ _ _ _ HW.out]⟩
              case measure => simp [intOf]; omega
            | true =>
              rw [hx] at hpv hst
              by_cases hq : (pat[k].toNat : Int) = 63
              · have HW : Hid (tab pat name (k + 1) (i + 1) = true) := by rw [hst, byte_eq (b := 63) hq]; simp [Hid]
                clear hst hx
                go_wp2
                go_roundw
                case rel => exact ⟨i + 1, by omega, by go_num, by rw [row_put _ _ _ _ HW.out]⟩
                case measure => simp [intOf]; omega
              · have hqb : ((pat[k].toNat : Int) == 63) = false := by simpa using hq
                by_cases he : (pat[k].toNat : Int) = name[i].toNat
                · have heb : ((pat[k].toNat : Int) == name[i].toNat) = true := by simpa using he
                  have HW : Hid (tab pat name (k + 1) (i + 1) = true) := by rw [hst, byte_eq he]; simp [Hid]
                  clear hst hx he
                  go_wp2
                  go_roundw
                  case rel => exact ⟨i + 1, by omega, by go_num, by rw [row_put _ _ _ _ HW.out]⟩
                  case measure => simp [intOf]; omega
                · have heb : ((pat[k].toNat : Int) == name[i].toNat) = false := by simpa using he
                  have HW : Hid (tab pat name (k + 1) (i + 1) = false) := by
                    have h1 := byte_ne (b := 63) hq
                    have h2 := byte_ne he
                    rw [hst]; simp [Hid, h1, h2]
                  clear hst hx he
                  go_wp2
                  go_roundw
                  case rel => exact ⟨i + 1, by omega, by go_num, by rw [row_put _ _ _ _ HW.out]⟩
                  case measure => simp [intOf]; omega
          · have hie : i = name.size := by omega
            subst hie
            go_wp2
            go_roundw
            case rel => exact ⟨k + 1, wr.heap.size, by omega, rfl, by go_num, by simp, hgr.alloc _ _, fun j hj => row_cells _ _ _ _ hj⟩
            case measure => simp [intOf]; omega
    · have hke : k = pat.size := by omega
      have hcg : wr.cell? ⟨g, name.size, none⟩ = some (.bool (gmB pat name)) := by
        rw [← tab_end, ← hke]; exact HC.out _ (by omega)
      clear hke
      go_wp2
      go_ret
      exact ⟨rfl, hgr⟩
end Go.Proofs.Qxb6604267aMods.TableC
