import Derived.Test.Qxb6604267aModsProg
import Derived.WalkKit
import Derived.WalkSpells
import Derived.WalkLawsBesides
import Derived.Deep.QuietTactic
import Derived.BigQuiet
namespace Go.Proofs.Qxb6604267aMods.Rd
open Go.RowKit

theorem ret_bool {a b : Bool} (h : a = b) : Ending.returned (.bool a) = .returned (.bool b) := by rw [h]
theorem byte_eq {a b : UInt8} (h : (a.toNat : Int) = b.toNat) : a = b := UInt8.toNat_inj.1 (by omega)
theorem byte_ne {a b : UInt8} (h : ¬ (a.toNat : Int) = b.toNat) : a ≠ b := fun e => h (by rw [e])

/-! ### isTableName, hasQuote -/
def Tidy (l : List UInt8) : Prop := 39 ∉ l ∧ 10 ∉ l
theorem take_snoc (s : ByteArray) (k : Nat) (h : k < s.size) : s.data.toList.take (k + 1) = s.data.toList.take k ++ [s[k]] := by
  rw [List.take_succ_eq_append_getElem (by simpa using h)]; rfl
theorem take_all (s : ByteArray) (k : Nat) (h : s.size ≤ k) : s.data.toList.take k = s.data.toList := List.take_of_length_le h
theorem clean_snoc (s : ByteArray) (k : Nat) (h : k < s.size) (hc : Tidy (s.data.toList.take k)) (h1 : ¬ (s[k].toNat : Int) = 39) (h2 : ¬ (s[k].toNat : Int) = 10) : Tidy (s.data.toList.take (k + 1)) := by
  rw [take_snoc s k h]
  have h1' := byte_ne (b := 39) h1
  have h2' := byte_ne (b := 10) h2
  exact ⟨by simp only [List.mem_append, List.mem_singleton, not_or]; exact ⟨hc.1, fun e => h1' e.symm⟩, by simp only [List.mem_append, List.mem_singleton, not_or]; exact ⟨hc.2, fun e => h2' e.symm⟩⟩
theorem noq_snoc (s : ByteArray) (k : Nat) (h : k < s.size) (hc : 39 ∉ s.data.toList.take k) (h1 : ¬ (s[k].toNat : Int) = 39) : 39 ∉ s.data.toList.take (k + 1) := by
  rw [take_snoc s k h]
  have h1' := byte_ne (b := 39) h1
  simp only [List.mem_append, List.mem_singleton, not_or]; exact ⟨hc, fun e => h1' e.symm⟩

/-- What isTableName's answer is good for; what hasQuote's. -/
def TabP (s : ByteArray) (w : World) (e : Ending) (w' : World) : Prop := ∃ b, e = .returned (.bool b) ∧ (b = true → Tidy s.data.toList) ∧ w' = w
def QuoP (s : ByteArray) (w : World) (e : Ending) (w' : World) : Prop := ∃ b, e = .returned (.bool b) ∧ (b = false → 39 ∉ s.data.toList) ∧ w' = w
theorem tab_no (s : ByteArray) (w : World) : TabP s w (.returned (.bool false)) w := ⟨false, rfl, (fun h => by cases h), rfl⟩
theorem tab_yes (s : ByteArray) (w : World) (h : Tidy s.data.toList) : TabP s w (.returned (.bool true)) w := ⟨true, rfl, fun _ => h, rfl⟩
theorem quo_yes (s : ByteArray) (w : World) : QuoP s w (.returned (.bool true)) w := ⟨true, rfl, (fun h => by cases h), rfl⟩
theorem quo_no (s : ByteArray) (w : World) (h : 39 ∉ s.data.toList) : QuoP s w (.returned (.bool false)) w := ⟨false, rfl, fun _ => h, rfl⟩

set_option maxHeartbeats 1000000 in
theorem table_ok (s : ByteArray) (hs : (s.size : Int) ≤ 65536) (w : World) :
    Calls Trym.prog 14 #[.string s] w fun e w' => TabP s w e w' := by
  go_enter Trym.func14, Trym.ntmps14
  go_wp2
  go_loop [3] (fun i => ∃ k : Nat, k ≤ s.size ∧ i = .int .i64 k ∧ Hid (Tidy (s.data.toList.take k))) (fun i => s.size - (intOf i).toNat)
  case atStart => exact ⟨0, by omega, rfl, by simp [Hid, Tidy]⟩
  case round =>
    obtain ⟨k, hk, rfl, HC⟩ := hrel
    by_cases hlt : k < s.size
    · by_cases h1 : (s[k].toNat : Int) = 39
      · go_wp2
        go_ret
        exact tab_no _ _
      · by_cases h2 : (s[k].toNat : Int) = 10
        · go_wp2
          go_ret
          exact tab_no _ _
        · have HN : Hid (Tidy (s.data.toList.take (k + 1))) := clean_snoc s k hlt HC.out h1 h2
          clear h1 h2
          go_wp2
          all_goals first
            | (go_ret; exact tab_no _ _)
            | (go_round; exact ⟨k + 1, by omega, by go_num, HN⟩; simp [intOf]; omega)
    · have HN : Hid (Tidy s.data.toList) := by
        have := HC.out
        rwa [take_all s k (by omega)] at this
      go_wp2
      go_ret
      exact tab_yes _ _ HN.out

set_option maxHeartbeats 400000 in
theorem quote_ok (s : ByteArray) (hs : (s.size : Int) ≤ 65536) (w : World) :
    Calls Trym.prog 15 #[.string s] w fun e w' => QuoP s w e w' := by
  go_enter Trym.func15, Trym.ntmps15
  go_wp2
  go_loop [3] (fun i => ∃ k : Nat, k ≤ s.size ∧ i = .int .i64 k ∧ Hid (39 ∉ s.data.toList.take k)) (fun i => s.size - (intOf i).toNat)
  case atStart => exact ⟨0, by omega, rfl, by simp [Hid]⟩
  case round =>
    obtain ⟨k, hk, rfl, HC⟩ := hrel
    by_cases hlt : k < s.size
    · by_cases h1 : (s[k].toNat : Int) = 39
      · go_wp2
        go_ret
        exact quo_yes _ _
      · have HN : Hid (39 ∉ s.data.toList.take (k + 1)) := noq_snoc s k hlt HC.out h1
        go_wp2
        go_round
        case rel => exact ⟨k + 1, by omega, by go_num, HN⟩
        case measure => simp [intOf]; omega
    · have HN : Hid (39 ∉ s.data.toList) := by
        have := HC.out
        rwa [take_all s k (by omega)] at this
      go_wp2
      go_ret
      exact quo_no _ _ HN.out
end Go.Proofs.Qxb6604267aMods.Rd
