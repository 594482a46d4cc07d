import Derived.Test.Qxb6604267aModsProg
import Derived.Test.Qxb6604267aModsGlob
import Derived.WalkKit
import Derived.WalkSpells
import Derived.WalkLawsBesides
import Derived.Deep.QuietTactic
import Derived.BigQuiet
namespace Go.Proofs.Qxb6604267aMods.MatchC
open Go.RowKit
open Glob

def gmB (p n : ByteArray) : Bool := gm p.data.toList n.data.toList

theorem grown_drewN (w : World) (n : Nat) : Grown w (w.drewN n) := by
  induction n generalizing w with
  | zero => exact Grown.refl _
  | succ n ih => exact ih w
theorem ret_bool {a b : Bool} (h : a = b) : Ending.returned (.bool a) = .returned (.bool b) := by rw [h]

theorem byte_eq {a b : UInt8} (h : (a.toNat : Int) = b.toNat) : a = b := UInt8.toNat_inj.1 (by omega)
theorem byte_ne {a b : UInt8} (h : ¬ (a.toNat : Int) = b.toNat) : a ≠ b := fun e => h (by rw [e])

theorem stuck_of (pat name : ByteArray) (p n : Nat) (hlt : n < name.size) (h : ∀ hp : p < pat.size, pat[p] ≠ 42 ∧ pat[p] ≠ 63 ∧ pat[p] ≠ name[n]) :
    ∀ hp : p < pat.data.toList.length, pat.data.toList[p] ≠ 42 ∧ pat.data.toList[p] ≠ 63 ∧ pat.data.toList[p] ≠ name.data.toList[n]'hlt := h

set_option maxHeartbeats 1000000 in
theorem match_any (pat name : ByteArray) (hp : (pat.size : Int) ≤ 1024) (hn : (name.size : Int) ≤ 1024) (w : World) :
    Calls Trym.prog 22 #[.string pat, .string name] w fun e w' => e = .returned (.bool (gmB pat name)) ∧ ∃ q, w' = w.drewN q := by
  go_enter Trym.func22, Trym.ntmps22
  go_wp2
  go_loopw [5, 6, 7, 8] (fun a b c d wr => ∃ (st sn p n q : Nat), Hid (Inv pat.data.toList name.data.toList st sn p n) ∧ p ≤ pat.size ∧ n ≤ name.size ∧ sn ≤ n ∧ st ≤ p ∧ a = .int .i64 ((st : Int) - 1) ∧ b = .int .i64 sn ∧ c = .int .i64 p ∧ d = .int .i64 n ∧ wr = w.drewN q) (fun _ b c _ _ => meas pat.size name.size (intOf b).toNat (intOf c).toNat)
  case atStart => exact ⟨0, 0, 0, 0, 0, Inv.start _ _, by omega, by omega, by omega, by omega, rfl, rfl, rfl, rfl, rfl⟩
  case round =>
    obtain ⟨st, sn, p, n, q, HI, hpp, hnn, hsn, hst, rfl, rfl, rfl, rfl, rfl⟩ := hrel
    by_cases hlt : n < name.size
    · by_cases hpl : p < pat.size
      · by_cases hs : (pat[p].toNat : Int) = 42
        · have HN : Hid (Inv pat.data.toList name.data.toList (p + 1) n (p + 1) n) := HI.out.star hpl (byte_eq (b := 42) hs)
          go_wp2
          go_roundw
          case rel => exact ⟨p + 1, n, p + 1, n, q, HN, by omega, by omega, by omega, by omega, by go_num, rfl, by go_num, rfl, rfl⟩
          case measure => exact meas_step hpl hsn
        · have HS : Hid (pat[p] ≠ 42) := byte_ne (b := 42) hs
          by_cases hq : (pat[p].toNat : Int) = 63
          · have HN : Hid (Inv pat.data.toList name.data.toList st sn (p + 1) (n + 1)) := HI.out.one hpl hlt HS.out (Or.inl (byte_eq (b := 63) hq))
            go_wp2
            go_quiet (fail)
            go_wp2
            go_roundw
            case rel => exact ⟨st, sn, p + 1, n + 1, _, HN, by omega, by omega, by omega, by omega, rfl, rfl, by go_num, by go_num, rfl⟩
            case measure => exact meas_step hpl (Nat.le_refl _)
          · have HQ : Hid (pat[p] ≠ 63) := byte_ne (b := 63) hq
            have hqb : ((pat[p].toNat : Int) == 63) = false := by simpa using hq
            by_cases he : (pat[p].toNat : Int) = name[n].toNat
            · have heb : ((pat[p].toNat : Int) == name[n].toNat) = true := by simpa using he
              have HN : Hid (Inv pat.data.toList name.data.toList st sn (p + 1) (n + 1)) := HI.out.one hpl hlt HS.out (Or.inr (byte_eq he))
              clear he
              go_wp2
              go_quiet (fail)
              go_wp2
              go_roundw
              case rel => exact ⟨st, sn, p + 1, n + 1, _, HN, by omega, by omega, by omega, by omega, rfl, rfl, by go_num, by go_num, rfl⟩
              case measure => exact meas_step hpl (Nat.le_refl _)
            · have heb : ((pat[p].toNat : Int) == name[n].toNat) = false := by simpa using he
              have HE : Hid (∀ hp : p < pat.size, pat[p] ≠ 42 ∧ pat[p] ≠ 63 ∧ pat[p] ≠ name[n]) := fun _ => ⟨HS.out, HQ.out, byte_ne he⟩
              clear he
              by_cases h0 : (1 : Int) ≤ st
              · have HN : Hid (Inv pat.data.toList name.data.toList st (sn + 1) st (sn + 1)) := HI.out.back (by omega) hlt (stuck_of pat name p n hlt HE.out)
                go_wp2
                go_quiet (fail)
                go_wp2
                go_roundw
                case rel => exact ⟨st, sn + 1, st, sn + 1, _, HN, by omega, by omega, by omega, by omega, rfl, by go_num, by go_num, by go_num, rfl⟩
                case measure => exact meas_back (by omega)
              · have HN : Hid (gmB pat name = false) := by
                  have e : st = 0 := by omega
                  have := HI.out
                  rw [e] at this
                  exact this.no hlt (stuck_of pat name p n hlt HE.out)
                go_wp2
                go_quiet (fail)
                go_wp2
                go_ret
                exact ⟨ret_bool HN.out.symm, _, rfl⟩
      · have hpd : decide ((p : Int) < pat.size) = false := by simp; omega
        have HE : Hid (∀ hp : p < pat.size, pat[p] ≠ 42 ∧ pat[p] ≠ 63 ∧ pat[p] ≠ name[n]) := fun h => absurd h hpl
        by_cases h0 : (1 : Int) ≤ st
        · have HN : Hid (Inv pat.data.toList name.data.toList st (sn + 1) st (sn + 1)) := HI.out.back (by omega) hlt (stuck_of pat name p n hlt HE.out)
          go_wp2
          go_quiet (fail)
          go_wp2
          go_roundw
          case rel => exact ⟨st, sn + 1, st, sn + 1, _, HN, by omega, by omega, by omega, by omega, rfl, by go_num, by go_num, by go_num, rfl⟩
          case measure => exact meas_back (by omega)
        · have HN : Hid (gmB pat name = false) := by
            have e : st = 0 := by omega
            have := HI.out
            rw [e] at this
            exact this.no hlt (stuck_of pat name p n hlt HE.out)
          go_wp2
          go_quiet (fail)
          go_wp2
          go_ret
          exact ⟨ret_bool HN.out.symm, _, rfl⟩
    · have HG : Hid (gm (pat.data.toList.drop p) [] = gmB pat name) := (HI.out.atEnd (by show n = name.size; omega)).symm
      go_wp2
      go_loop [7] (fun c => ∃ p' : Nat, p' ≤ pat.size ∧ c = .int .i64 p' ∧ Hid (gm (pat.data.toList.drop p') [] = gmB pat name)) (fun c => pat.size - (intOf c).toNat)
      case atStart => exact ⟨p, hpp, rfl, HG⟩
      case round =>
        obtain ⟨p', hp', rfl, HG'⟩ := hrel
        by_cases hpl : p' < pat.size
        · by_cases hs : (pat[p'].toNat : Int) = 42
          · have HN : Hid (gm (pat.data.toList.drop (p' + 1)) [] = gmB pat name) := (tail_star _ p' hpl (byte_eq (b := 42) hs)).symm.trans HG'.out
            go_wp2
            go_round
            case rel => exact ⟨p' + 1, by omega, by go_num, HN⟩
            case measure => simp [intOf]; omega
          · have HN : Hid (gmB pat name = false) := HG'.out.symm.trans (tail_other _ p' hpl (byte_ne (b := 42) hs))
            have hsb : ((pat[p'].toNat : Int) == 42) = false := by simpa using hs
            go_wp2
            go_ret
            exact ⟨ret_bool (by rw [HN.out]; simp; omega), _, rfl⟩
        · have HN : Hid (gmB pat name = true) := HG'.out.symm.trans (tail_end _ p' (by show p' = pat.size; omega))
          go_wp2
          go_ret
          exact ⟨ret_bool (by rw [HN.out]; simp; omega), _, rfl⟩
end Go.Proofs.Qxb6604267aMods.MatchC
