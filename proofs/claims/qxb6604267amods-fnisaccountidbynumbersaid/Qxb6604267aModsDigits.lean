/- Plain mathematics of twelve decimal digits: no Go in sight. -/
namespace Go.Proofs.Qxb6604267aMods.Digits

theorem snocInd {motive : List UInt8 → Prop} (h0 : motive []) (h1 : ∀ l c, motive l → motive (l ++ [c])) (l : List UInt8) : motive l := by
  have h : ∀ r : List UInt8, motive r.reverse := by
    intro r
    induction r with
    | nil => exact h0
    | cons c r ih => rw [List.reverse_cons]; exact h1 _ _ ih
  have := h l.reverse
  rwa [List.reverse_reverse] at this

def isDig (c : UInt8) : Bool := 48 ≤ c && c ≤ 57
theorem isDig_iff (c : UInt8) : isDig c = true ↔ 48 ≤ c.toNat ∧ c.toNat ≤ 57 := by
  simp [isDig, UInt8.le_iff_toNat_le]

/-- The byte of the lowest digit. -/
def dg (v : Nat) : UInt8 := UInt8.ofNat (48 + v % 10)
theorem dg_toNat (v : Nat) : (dg v).toNat = 48 + v % 10 := by
  unfold dg; rw [UInt8.toNat_ofNat']; omega
theorem dg_isDig (v : Nat) : isDig (dg v) = true := by rw [isDig_iff, dg_toNat]; omega

/-- The k lowest digits of v, the highest first. -/
def tw : Nat → Nat → List UInt8
  | 0, _ => []
  | k + 1, v => dg (v / 10 ^ k) :: tw k v

theorem tw_length (k v : Nat) : (tw k v).length = k := by
  induction k with
  | zero => rfl
  | succ k ih => simp [tw, ih]

theorem tw_all (k v : Nat) : (tw k v).all isDig = true := by
  induction k with
  | zero => rfl
  | succ k ih => simp only [tw, List.all_cons, dg_isDig, ih, Bool.and_self]

theorem tw_snoc (k v : Nat) : tw (k + 1) v = tw k (v / 10) ++ [dg v] := by
  induction k with
  | zero => simp [tw]
  | succ k ih =>
    rw [tw, ih, tw]
    rw [Nat.div_div_eq_div_mul, Nat.pow_succ, Nat.mul_comm 10]
    rfl

/-- The number that a text spells, each byte less '0' as a byte. -/
def bv (c : UInt8) : Nat := (c.toNat + 208) % 256
def val (l : List UInt8) : Nat := l.foldl (fun a c => a * 10 + bv c) 0
theorem val_snoc (l : List UInt8) (c : UInt8) : val (l ++ [c]) = val l * 10 + bv c := by simp [val]
theorem bv_le (c : UInt8) : bv c ≤ 255 := by unfold bv; omega
theorem val_lt (l : List UInt8) : val l + 29 ≤ 29 * 10 ^ l.length := by
  induction l using snocInd with
  | h0 => simp [val]
  | h1 l c ih =>
    rw [val_snoc, List.length_append]
    have := bv_le c
    simp only [List.length_singleton, Nat.pow_succ]
    omega

theorem tw_val (l : List UInt8) (h : l.all isDig = true) : tw l.length (val l) = l := by
  induction l using snocInd with
  | h0 => rfl
  | h1 l c ih =>
    simp only [List.all_append, List.all_cons, List.all_nil, Bool.and_true, Bool.and_eq_true] at h
    obtain ⟨h1, h2⟩ := h
    rw [isDig_iff] at h2
    rw [val_snoc, List.length_append, List.length_singleton, tw_snoc]
    have hb : bv c = c.toNat - 48 := by unfold bv; omega
    have e1 : (val l * 10 + bv c) / 10 = val l := by omega
    have e2 : dg (val l * 10 + bv c) = c := by
      apply UInt8.toNat_inj.1
      rw [dg_toNat]; omega
    rw [e1, e2, ih h1]

/-- Reading twelve bytes as a number and writing it back gives them again, just where they are digits. -/
theorem twelve (l : List UInt8) (h : l.length = 12) : (tw 12 (val l) == l) = l.all isDig := by
  rw [Bool.eq_iff_iff, beq_iff_eq]
  constructor
  · intro e; rw [← e]; exact tw_all _ _
  · intro hd; have := tw_val l hd; rw [h] at this; exact this

end Go.Proofs.Qxb6604267aMods.Digits
