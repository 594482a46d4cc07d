import Derived.Test.Qxb6604267aModsRead5
namespace Go.Proofs.Qxb6604267aMods.Rd
open Go.RowKit

/-! ### readUserData's own keys, as it spells them -/
def kHead : List UInt8 := [35, 33, 47, 98, 105, 110, 47, 115, 104, 10]
def kTab : List UInt8 := [10, 116, 97, 98, 108, 101, 61, 39]
def kExe : List UInt8 := [10, 101, 120, 101, 99, 32, 105, 100, 108, 101, 119, 105, 108, 100, 32, 97, 103, 101, 110, 116, 32, 45, 45, 116, 97, 98, 108, 101, 32, 39]
def L (l : List UInt8) : ByteArray := ⟨l.toArray⟩

theorem grown_drewN' {a b : World} (h : Grown a b) (n : Nat) : Grown a (b.drewN n) := by
  induction n generalizing b with
  | zero => exact h
  | succ n ih => exact ih h.drew
theorem grown_set {a b : World} (h : Grown a b) (o : Nat) (v : Value) : Grown a (b.setCell ⟨a.heap.size, o, none⟩ v) := h.setCell (Nat.le_refl _) v

set_option maxRecDepth 100000 in
set_option maxHeartbeats 1000000 in
theorem read_short_core (out sc t : ByteArray) (c : Nat) (hs : (out.size : Int) = (c : Int) + 30 + t.size + 2) (hb : (out.size : Int) ≤ 1000000)
    (hlast : ∀ h : c + 30 + t.size + 1 < out.size, (out[c + 30 + t.size + 1].toNat : Int) = 10)
    (H1 : ∀ w, Calls Trym.prog 23 #[.string out, .int .i64 0, .string ⟨#[35, 33, 47, 98, 105, 110, 47, 115, 104, 10]⟩] w fun e w' => e = .returned (.bool true) ∧ ∃ q, w' = w.drewN q)
    (H2 : ∀ w, Calls Trym.prog 24 #[.string out, .string ⟨#[10, 116, 97, 98, 108, 101, 61, 39]⟩] w fun e w' => e = .returned (.int .i64 (-1)) ∧ ∃ q, w' = w.drewN q)
    (H3 : ∀ w, Calls Trym.prog 24 #[.string out, .string ⟨#[10, 101, 120, 101, 99, 32, 105, 100, 108, 101, 119, 105, 108, 100, 32, 97, 103, 101, 110, 116, 32, 45, 45, 116, 97, 98, 108, 101, 32, 39]⟩] w fun e w' => e = .returned (.int .i64 c) ∧ ∃ q, w' = w.drewN q)
    (H4 : ∀ w, Calls Trym.prog 25 #[.string (out.extract 0 c)] w fun e w' => e = .returned (.bool true) ∧ w' = w)
    (H5 : ∀ w, Calls Trym.prog 26 #[.string out, .int .i64 ((c : Int) + 30)] w fun e w' => e = .returned (.tuple #[.string t, .int .i64 ((c : Int) + 30 + t.size), .bool true]) ∧ w' = w)
    (w : World) :
    Calls Trym.prog 16 #[.string out, .string sc] w fun e w' => e = .returned (.agg #[.string t, .string ⟨#[]⟩, .string ⟨#[]⟩, .string ⟨#[]⟩, .string ⟨#[]⟩, .string ⟨#[]⟩, .bool false, .bool true]) ∧ Grown w w' := by
  have HS : Hid ((out.size : Int) = (c : Int) + 30 + t.size + 2) := hs
  have hlt : c + 30 + t.size + 1 < out.size := by omega
  have hla := hlast hlt
  have hneq : (c : Int) + 30 + t.size + 2 = out.size := hs.symm
  have hcl : (c : Int) ≤ out.size := by omega
  clear hs hlast
  go_enter Trym.func16, Trym.ntmps16
  go_wp2_with fail
  refine (H1 _).mono ?_
  rintro e w1 ⟨rfl, q1, rfl⟩
  clear H1
  go_wp2_with fail
  refine (H2 _).mono ?_
  rintro e w1 ⟨rfl, q2, rfl⟩
  clear H2
  go_wp2_with fail
  refine (H3 _).mono ?_
  rintro e w1 ⟨rfl, q3, rfl⟩
  clear H3
  go_wp2_with fail
  refine (H4 _).mono ?_
  rintro e w1 ⟨rfl, rfl⟩
  clear H4
  go_wp2_with fail
  refine (H5 _).mono ?_
  rintro e w1 ⟨rfl, rfl⟩
  clear H5
  go_wp2_with fail
  refine bodyPost_ret (v := .agg #[.string t, .string ⟨#[]⟩, .string ⟨#[]⟩, .string ⟨#[]⟩, .string ⟨#[]⟩, .string ⟨#[]⟩, .bool false, .bool true]) (by simp [results, Trym.results16, go_sem]) rfl ⟨rfl, ?_⟩
  repeat (first | apply grown_set | exact grown_drewN _ _ | exact grown_drewN' ((Grown.refl _).alloc _ _) _)
end Go.Proofs.Qxb6604267aMods.Rd
