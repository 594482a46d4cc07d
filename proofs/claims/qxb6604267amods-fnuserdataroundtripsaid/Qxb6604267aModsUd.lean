import Derived.Test.Qxb6604267aModsProg
import Derived.WalkKit
import Derived.WalkSpells
import Derived.WalkLawsBesides
namespace Go.Proofs.Qxb6604267aMods.Ud
open Go.RowKit

theorem grown_trans {a b c : World} (h : Grown a b) (k : Grown b c) : Grown a c :=
  ⟨World.keptBut_trans h.1 k.1, fun x => (k.2.1 x).trans (h.2.1 x), Nat.le_trans h.2.2 k.2.2⟩
theorem ret_bool {a b : Bool} (h : a = b) : Ending.returned (.bool a) = .returned (.bool b) := by rw [h]

/-! ### userData's own texts, taken out of the loaded program: the constants that it adds, in the order of the text -/
def addConst : Op → List (List UInt8)
  | .binOp .add _ (.const (.string s)) _ _ => [s.data.toList]
  | .binOp .add _ _ (.const (.string s)) _ => [s.data.toList]
  | _ => []
def consts : Code → List (List UInt8)
  | .region _ ops _ => ops.toList.flatMap (fun o => addConst o.op)
  | .seq a b => consts a ++ consts b
  | .cond _ a b => consts a ++ consts b
  | _ => []
def parts (f : Func) : List (List UInt8) := (f.body.map consts).getD []
def pt (f : Func) (i : Nat) : List UInt8 := (parts f).getD i []
/-- A text as a Go string. -/
def B (l : List UInt8) : ByteArray := ⟨l.toArray⟩

/-- The zero Install's user data. -/
def ud0 (f : Func) (t : ByteArray) : ByteArray := B (pt f 0) ++ t ++ B (pt f 1) ++ B (pt f 2) ++ t ++ B (pt f 3)
/-- Every other Install's. -/
def ud1 (f : Func) (t a b c d e : ByteArray) : ByteArray :=
  B (pt f 0) ++ t ++ B (pt f 4) ++ B (pt f 5) ++ B (pt f 6) ++ t ++ B (pt f 7) ++ B (pt f 8) ++ a ++ B (pt f 9) ++ B (pt f 10) ++ b ++ B (pt f 11) ++ B (pt f 12) ++ c ++ B (pt f 13) ++ B (pt f 14) ++ d ++ B (pt f 15) ++ B (pt f 16) ++ e ++ B (pt f 17) ++ B (pt f 18)

def allNil (a b c d e : ByteArray) : Bool := a.toList.isEmpty && b.toList.isEmpty && c.toList.isEmpty && d.toList.isEmpty && e.toList.isEmpty
theorem eq5 (a b c d e : ByteArray) (w : World) : (binOp .eql 28 (.agg #[.string a, .string b, .string c, .string d, .string e]) (.agg #[.string ⟨#[]⟩, .string ⟨#[]⟩, .string ⟨#[]⟩, .string ⟨#[]⟩, .string ⟨#[]⟩])).run Trym.prog w = .ok (.bool (allNil a b c d e)) w := by
  simp [go_sem, allNil]
  by_cases ha : a.toList = []
  · by_cases hb : b.toList = []
    · by_cases hc : c.toList = []
      · by_cases hd : d.toList = []
        · by_cases he : e.toList = [] <;> simp [ha, hb, hc, hd, he]
        · simp [ha, hb, hc, hd]
      · simp [ha, hb, hc]
    · simp [ha, hb]
  · simp [ha]

set_option maxHeartbeats 400000 in
theorem ud_zero (t : ByteArray) (ht : (t.size : Int) ≤ 65536) (w : World) :
    Calls Trym.prog 28 #[.string t, .agg #[.string ⟨#[]⟩, .string ⟨#[]⟩, .string ⟨#[]⟩, .string ⟨#[]⟩, .string ⟨#[]⟩]] w fun e w' => e = .returned (.string (ud0 Trym.f28 t)) ∧ Grown w w' := by
  go_enter Trym.func28, Trym.ntmps28
  go_wp2
  go_ret
  exact ⟨by kernel_rfl, (Grown.refl _).alloc _ _⟩

set_option maxRecDepth 100000 in
set_option maxHeartbeats 1000000 in
theorem ud_more (t a b c d e : ByteArray) (ht : (t.size : Int) ≤ 65536) (ha : (a.size : Int) ≤ 65536) (hb : (b.size : Int) ≤ 65536) (hc : (c.size : Int) ≤ 65536) (hd : (d.size : Int) ≤ 65536) (he : (e.size : Int) ≤ 65536) (hz : allNil a b c d e = false) (w : World) :
    Calls Trym.prog 28 #[.string t, .agg #[.string a, .string b, .string c, .string d, .string e]] w fun z w' => z = .returned (.string (ud1 Trym.f28 t a b c d e)) ∧ Grown w w' := by
  have heq := eq5 a b c d e
  rw [hz] at heq
  clear hz
  go_enter Trym.func28, Trym.ntmps28
  go_wp2
  go_ret
  exact ⟨by kernel_rfl, (Grown.refl _).alloc _ _⟩
end Go.Proofs.Qxb6604267aMods.Ud
