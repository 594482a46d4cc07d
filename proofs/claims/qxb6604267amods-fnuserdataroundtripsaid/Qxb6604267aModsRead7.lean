import Derived.Test.Qxb6604267aModsRead6
namespace Go.Proofs.Qxb6604267aMods.Rd
open Go.RowKit

def kN1 : List UInt8 := [105, 100, 108, 101, 119, 105, 108, 100, 95, 117, 114, 108]
def kN2 : List UInt8 := [105, 100, 108, 101, 119, 105, 108, 100, 95, 115, 104, 97, 50, 53, 54]
def kN3 : List UInt8 := [114, 117, 110, 110, 101, 114, 95, 117, 114, 108]
def kN4 : List UInt8 := [114, 117, 110, 110, 101, 114, 95, 115, 104, 97, 50, 53, 54]
def kN5 : List UInt8 := [117, 115, 101, 114]

set_option maxRecDepth 100000 in
set_option maxHeartbeats 2000000 in
theorem read_long_core (out sc t a b c d e : ByteArray) (p : Nat) (q0 q1 q2 q3 q4 q5 : Int) (hb : (out.size : Int) ≤ 1000000) (hp : (p : Int) + 8 ≤ out.size)
    (h0 : 0 ≤ q0) (h1 : 0 ≤ q1) (h2 : 0 ≤ q2) (h3 : 0 ≤ q3) (h4 : 0 ≤ q4) (h5 : 0 ≤ q5) (l0 : q0 ≤ out.size) (l1 : q1 ≤ out.size) (l2 : q2 ≤ out.size) (l3 : q3 ≤ out.size) (l4 : q4 ≤ out.size)
    (hend : q5 + 2 + sc.size = out.size)
    (H1 : ∀ w, Calls Trym.prog 23 #[.string out, .int .i64 0, .string ⟨#[35, 33, 47, 98, 105, 110, 47, 115, 104, 10]⟩] w fun e w' => e = .returned (.bool true) ∧ ∃ q, w' = w.drewN q)
    (H2 : ∀ w, Calls Trym.prog 24 #[.string out, .string ⟨#[10, 116, 97, 98, 108, 101, 61, 39]⟩] w fun e w' => e = .returned (.int .i64 p) ∧ ∃ q, w' = w.drewN q)
    (H3 : ∀ w, Calls Trym.prog 25 #[.string (out.extract 0 p)] w fun e w' => e = .returned (.bool true) ∧ w' = w)
    (H4 : ∀ w, Calls Trym.prog 26 #[.string out, .int .i64 ((p : Int) + 8)] w fun e w' => e = .returned (.tuple #[.string t, .int .i64 q0, .bool true]) ∧ w' = w)
    (F1 : ∀ w, Calls Trym.prog 27 #[.string out, .int .i64 (q0 + 1), .string ⟨#[105, 100, 108, 101, 119, 105, 108, 100, 95, 117, 114, 108]⟩] w fun z w' => z = .returned (.tuple #[.string a, .int .i64 q1, .bool true]) ∧ ∃ r, w' = w.drewN r)
    (F2 : ∀ w, Calls Trym.prog 27 #[.string out, .int .i64 (q1 + 1), .string ⟨#[105, 100, 108, 101, 119, 105, 108, 100, 95, 115, 104, 97, 50, 53, 54]⟩] w fun z w' => z = .returned (.tuple #[.string b, .int .i64 q2, .bool true]) ∧ ∃ r, w' = w.drewN r)
    (F3 : ∀ w, Calls Trym.prog 27 #[.string out, .int .i64 (q2 + 1), .string ⟨#[114, 117, 110, 110, 101, 114, 95, 117, 114, 108]⟩] w fun z w' => z = .returned (.tuple #[.string c, .int .i64 q3, .bool true]) ∧ ∃ r, w' = w.drewN r)
    (F4 : ∀ w, Calls Trym.prog 27 #[.string out, .int .i64 (q3 + 1), .string ⟨#[114, 117, 110, 110, 101, 114, 95, 115, 104, 97, 50, 53, 54]⟩] w fun z w' => z = .returned (.tuple #[.string d, .int .i64 q4, .bool true]) ∧ ∃ r, w' = w.drewN r)
    (F5 : ∀ w, Calls Trym.prog 27 #[.string out, .int .i64 (q4 + 1), .string ⟨#[117, 115, 101, 114]⟩] w fun z w' => z = .returned (.tuple #[.string e, .int .i64 q5, .bool true]) ∧ ∃ r, w' = w.drewN r)
    (H5 : ∀ w, Calls Trym.prog 23 #[.string out, .int .i64 (q5 + 1), .string ⟨#[10]⟩] w fun e w' => e = .returned (.bool true) ∧ ∃ q, w' = w.drewN q)
    (H6 : ∀ w, Calls Trym.prog 23 #[.string out, .int .i64 (q5 + 2), .string sc] w fun e w' => e = .returned (.bool true) ∧ ∃ q, w' = w.drewN q)
    (w : World) :
    Calls Trym.prog 16 #[.string out, .string sc] w fun z w' => z = .returned (.agg #[.string t, .string a, .string b, .string c, .string d, .string e, .bool true, .bool true]) ∧ Grown w w' := by
  have hcl : (p : Int) ≤ out.size := by omega
  go_enter Trym.func16, Trym.ntmps16
  go_wp2_with fail
  refine (H1 _).mono ?_
  rintro z w1 ⟨rfl, r1, rfl⟩
  clear H1
  go_wp2_with fail
  refine (H2 _).mono ?_
  rintro z w1 ⟨rfl, r2, rfl⟩
  clear H2
  go_wp2_with fail
  refine (H3 _).mono ?_
  rintro z w1 ⟨rfl, rfl⟩
  clear H3
  go_wp2_with fail
  refine (H4 _).mono ?_
  rintro z w1 ⟨rfl, rfl⟩
  clear H4
  go_wp2_with fail
  refine (F1 _).mono ?_
  rintro z w1 ⟨rfl, s1, rfl⟩
  clear F1
  go_wp2_with fail
  refine (F2 _).mono ?_
  rintro z w1 ⟨rfl, s2, rfl⟩
  clear F2
  go_wp2_with fail
  refine (F3 _).mono ?_
  rintro z w1 ⟨rfl, s3, rfl⟩
  clear F3
  go_wp2_with fail
  refine (F4 _).mono ?_
  rintro z w1 ⟨rfl, s4, rfl⟩
  clear F4
  go_wp2_with fail
  refine (F5 _).mono ?_
  rintro z w1 ⟨rfl, s5, rfl⟩
  clear F5
  go_wp2_with fail
  refine (H5 _).mono ?_
  rintro z w1 ⟨rfl, r5, rfl⟩
  clear H5
  go_wp2_with fail
  refine (H6 _).mono ?_
  rintro z w1 ⟨rfl, r6, rfl⟩
  clear H6
  go_wp2_with fail
  refine bodyPost_ret (v := .agg #[.string t, .string a, .string b, .string c, .string d, .string e, .bool true, .bool true]) (by simp [results, Trym.results16, go_sem]) rfl ⟨rfl, ?_⟩
  repeat (first | apply grown_set | exact grown_drewN' ((Grown.refl _).alloc _ _) _)
end Go.Proofs.Qxb6604267aMods.Rd
