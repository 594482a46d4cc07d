/- Plain mathematics of glob matching over bytes: no Go in sight. -/
namespace Go.Proofs.Qxb6604267aMods.Glob

/-- 'f' holds of some end of the list. -/
def someEnd (f : List UInt8 → Bool) : List UInt8 → Bool
  | [] => f []
  | x :: n => f (x :: n) || someEnd f n

/-- Glob matching: '*' (42): any run; '?' (63): one byte; else the byte itself. -/
def gm : List UInt8 → List UInt8 → Bool
  | [], n => n.isEmpty
  | c :: p, n => if c = 42 then someEnd (gm p) n else
    match n with
    | [] => false
    | x :: n' => (c == 63 || c == x) && gm p n'

theorem someEnd_iff (f : List UInt8 → Bool) (n : List UInt8) : someEnd f n = true ↔ ∃ k, k ≤ n.length ∧ f (n.drop k) = true := by
  induction n with
  | nil => simp [someEnd]
  | cons x n ih =>
    simp only [someEnd, Bool.or_eq_true, ih]
    constructor
    · rintro (h | ⟨k, hk, h⟩)
      · exact ⟨0, by simp, by simpa using h⟩
      · exact ⟨k + 1, by simp; omega, by simpa using h⟩
    · rintro ⟨k, hk, h⟩
      cases k with
      | zero => exact Or.inl (by simpa using h)
      | succ k => exact Or.inr ⟨k, by simp at hk; omega, by simpa using h⟩

theorem gm_nil (n : List UInt8) : gm [] n = true ↔ n = [] := by simp [gm]
theorem gm_star (p n : List UInt8) : gm (42 :: p) n = true ↔ ∃ k, k ≤ n.length ∧ gm p (n.drop k) = true := by
  simp [gm, someEnd_iff]
theorem gm_one {c : UInt8} (hc : c ≠ 42) (p n : List UInt8) : gm (c :: p) n = true ↔ ∃ x n', n = x :: n' ∧ (c = 63 ∨ c = x) ∧ gm p n' = true := by
  cases n with
  | nil => simp [gm, hc]
  | cons x n =>
    simp only [gm, hc, if_false, Bool.and_eq_true, Bool.or_eq_true, beq_iff_eq]
    constructor
    · rintro ⟨h1, h2⟩; exact ⟨x, n, rfl, h1, h2⟩
    · rintro ⟨y, m, e, h1, h2⟩
      obtain ⟨rfl, rfl⟩ := List.cons.inj e
      exact ⟨h1, h2⟩

theorem gm_append (p q n : List UInt8) : gm (p ++ q) n = true ↔ ∃ k, k ≤ n.length ∧ gm p (n.take k) = true ∧ gm q (n.drop k) = true := by
  induction p generalizing n with
  | nil =>
    simp only [List.nil_append, gm_nil]
    constructor
    · intro h; exact ⟨0, by simp, by simp, by simpa using h⟩
    · rintro ⟨k, hk, h1, h2⟩
      have : k = 0 := by
        have := congrArg List.length h1
        rw [List.length_take] at this
        simp only [List.length_nil] at this
        omega
      subst this; simpa using h2
  | cons c p ih =>
    by_cases hc : c = 42
    · subst hc
      simp only [List.cons_append, gm_star, ih]
      constructor
      · rintro ⟨k, hk, j, hj, h1, h2⟩
        simp only [List.length_drop] at hj
        refine ⟨k + j, by omega, ⟨k, by simp; omega, ?_⟩, ?_⟩
        · rw [List.drop_take]
          rw [show k + j - k = j by omega]; exact h1
        · rw [List.drop_drop] at h2; exact h2
      · rintro ⟨k, hk, ⟨j, hj, h1⟩, h2⟩
        simp only [List.length_take] at hj
        refine ⟨j, by omega, k - j, by simp; omega, ?_, ?_⟩
        · rw [List.drop_take] at h1; exact h1
        · rw [List.drop_drop, show j + (k - j) = k by omega]; exact h2
    · simp only [List.cons_append, gm_one hc, ih]
      constructor
      · rintro ⟨x, n', rfl, hx, k, hk, h1, h2⟩
        exact ⟨k + 1, by simp; omega, ⟨x, n'.take k, by simp, hx, h1⟩, by simpa using h2⟩
      · rintro ⟨k, hk, ⟨x, n', hn, hx, h1⟩, h2⟩
        cases n with
        | nil => simp at hn
        | cons y n =>
          cases k with
          | zero => simp at hn
          | succ k =>
            simp only [List.take_succ_cons, List.cons.injEq] at hn
            obtain ⟨rfl, rfl⟩ := hn
            exact ⟨y, n, rfl, hx, k, by simp at hk; omega, h1, by simpa using h2⟩

/-- Of a pattern without '*': what it matches is as long as itself. -/
theorem gm_len (p n : List UInt8) (h : gm p n = true) : (p.filter (fun c => c != 42)).length ≤ n.length ∧ (42 ∉ p → n.length = p.length) := by
  induction p generalizing n with
  | nil => rw [gm_nil] at h; subst h; simp
  | cons c p ih =>
    by_cases hc : c = 42
    · subst hc
      obtain ⟨k, hk, h⟩ := (gm_star p n).1 h
      have := (ih _ h).1
      simp at this ⊢
      omega
    · obtain ⟨x, n', rfl, hx, h⟩ := (gm_one hc p n).1 h
      have := ih _ h
      rw [List.filter_cons_of_pos (by simpa using hc)]
      refine ⟨by simpa using this.1, fun h42 => ?_⟩
      have := this.2 (fun h => h42 (List.mem_cons_of_mem _ h))
      simpa using this

theorem gm_self (p : List UInt8) : gm p p = true := by
  induction p with
  | nil => simp [gm]
  | cons c p ih =>
    by_cases hc : c = 42
    · subst hc; exact (gm_star _ _).2 ⟨1, by simp, by simpa using ih⟩
    · exact (gm_one hc _ _).2 ⟨c, p, rfl, Or.inr rfl, ih⟩

/-- A stretch without '*' ahead of the pattern eats just its own length. -/
theorem gm_seg (p q n : List UInt8) (hp : 42 ∉ p) (h : gm (p ++ q) n = true) : p.length ≤ n.length ∧ gm q (n.drop p.length) = true := by
  obtain ⟨k, hk, h1, h2⟩ := (gm_append p q n).1 h
  have := (gm_len _ _ h1).2 hp
  simp at this
  have e : k = p.length := by omega
  subst e
  exact ⟨hk, h2⟩

/-! ### the backtracking search -/

/-- What the search knows at each round's head: 'st' the last star's place plus one (0: none yet), 'sn' the place in the name that it stands for so far. -/
structure Inv (P N : List UInt8) (st sn p n : Nat) : Prop where
  hp : p ≤ P.length
  hn : n ≤ N.length
  low : st ≤ p
  noStar : 42 ∉ (P.take p).drop st
  none : st = 0 → sn = 0 ∧ gm P N = gm (P.drop p) (N.drop n)
  some : 0 < st → sn + (p - st) = n ∧ gm P N = gm (42 :: P.drop st) (N.drop sn) ∧ gm (P.drop st) (N.drop sn) = gm (P.drop p) (N.drop n)

theorem Inv.start (P N : List UInt8) : Inv P N 0 0 0 0 := ⟨by simp, by simp, by simp, by simp, by simp, by omega⟩

theorem drop_cons (P : List UInt8) (p : Nat) (h : p < P.length) : P.drop p = P[p] :: P.drop (p + 1) := by
  rw [List.drop_eq_getElem_cons h]

theorem seg_split (P : List UInt8) (st p : Nat) (h : st ≤ p) : P.drop st = (P.take p).drop st ++ P.drop p := by
  conv => lhs; rw [← List.take_append_drop p P]
  by_cases hp : p ≤ P.length
  · rw [List.drop_append_of_le_length (by simp; omega)]
  · have e : P.drop p = [] := List.drop_eq_nil_of_le (by omega)
    rw [e]; simp

/-- With a star on the way, the whole answer is the answer from here, if from here one begins with a star, or the name is at its end. -/
theorem Inv.whole {P N : List UInt8} {st sn p n : Nat} (h : Inv P N st sn p n)
    (hend : (∃ r, P.drop p = 42 :: r) ∨ n = N.length) : gm P N = gm (P.drop p) (N.drop n) := by
  by_cases h0 : st = 0
  · exact (h.none h0).2
  · obtain ⟨he, hw, hs⟩ := h.some (by omega)
    rw [hw, ← hs]
    rw [Bool.eq_iff_iff]
    constructor
    · intro hg
      obtain ⟨k, hk, hg⟩ := (gm_star _ _).1 hg
      rw [hs]
      rw [seg_split P st p h.low] at hg
      obtain ⟨hl, hg⟩ := gm_seg _ _ _ h.noStar hg
      have hlen : ((P.take p).drop st).length = p - st := by simp; have := h.hp; omega
      rw [hlen] at hl hg
      simp only [List.length_drop] at hl hk
      rw [List.drop_drop, List.drop_drop] at hg
      rcases hend with ⟨r, hr⟩ | hn
      · rw [hr] at hg ⊢
        obtain ⟨j, hj, hg⟩ := (gm_star _ _).1 hg
        refine (gm_star _ _).2 ⟨k + j, ?_, ?_⟩
        · simp at hj ⊢; omega
        · rw [List.drop_drop] at hg ⊢
          rw [show n + (k + j) = sn + (k + (p - st)) + j by omega]; exact hg
      · have : k = 0 := by omega
        subst this
        rw [show sn + (0 + (p - st)) = n by omega] at hg
        exact hg
    · intro hg
      exact (gm_star _ _).2 ⟨0, by simp, by simpa using hg⟩

theorem Inv.star {P N : List UInt8} {st sn p n : Nat} (h : Inv P N st sn p n) (hp : p < P.length) (hc : P[p] = 42) : Inv P N (p + 1) n (p + 1) n := by
  have hd := drop_cons P p hp
  rw [hc] at hd
  refine ⟨by omega, h.hn, by omega, by simp, by omega, fun _ => ⟨by omega, ?_, rfl⟩⟩
  rw [h.whole (Or.inl ⟨_, hd⟩), hd]

theorem Inv.one {P N : List UInt8} {st sn p n : Nat} (h : Inv P N st sn p n) (hp : p < P.length) (hn : n < N.length) (hc : P[p] ≠ 42) (hm : P[p] = 63 ∨ P[p] = N[n]) : Inv P N st sn (p + 1) (n + 1) := by
  have hd := drop_cons P p hp
  have hdn := drop_cons N n hn
  have hg : gm (P.drop p) (N.drop n) = gm (P.drop (p + 1)) (N.drop (n + 1)) := by
    rw [hd, hdn]
    simp only [gm, hc, if_false]
    rcases hm with hm | hm
    · simp [hm]
    · simp [hm]
  have hl := h.low
  refine ⟨by omega, by omega, by omega, ?_, ?_, ?_⟩
  · rw [List.take_succ_eq_append_getElem hp, List.drop_append_of_le_length (by simp; omega)]
    simp only [List.mem_append, List.mem_singleton, not_or]
    exact ⟨h.noStar, fun e => hc e.symm⟩
  · intro h0; rw [← hg]; exact h.none h0
  · intro h0
    obtain ⟨he, hw, hs⟩ := h.some h0
    exact ⟨by omega, hw, by rw [hs, hg]⟩

/-- No way on from here. -/
theorem stuck {P N : List UInt8} {p n : Nat} (hn : n < N.length) (hno : ∀ hp : p < P.length, P[p] ≠ 42 ∧ P[p] ≠ 63 ∧ P[p] ≠ N[n]) : gm (P.drop p) (N.drop n) = false := by
  have hdn := drop_cons N n hn
  by_cases hp : p < P.length
  · obtain ⟨h1, h2, h3⟩ := hno hp
    rw [drop_cons P p hp, hdn]
    simp [gm, h1, h2, h3]
  · have e : P.drop p = [] := List.drop_eq_nil_of_le (by omega)
    rw [e, hdn]
    rfl

theorem Inv.back {P N : List UInt8} {st sn p n : Nat} (h : Inv P N st sn p n) (h0 : 0 < st) (hn : n < N.length) (hno : ∀ hp : p < P.length, P[p] ≠ 42 ∧ P[p] ≠ 63 ∧ P[p] ≠ N[n]) : Inv P N st (sn + 1) st (sn + 1) := by
  obtain ⟨he, hw, hs⟩ := h.some h0
  rw [stuck hn hno] at hs
  have hl := h.low
  have hpp := h.hp
  refine ⟨by omega, by omega, by omega, by simp, by omega, fun _ => ⟨by omega, ?_, rfl⟩⟩
  rw [hw]
  have hd := drop_cons N sn (by omega)
  show someEnd _ _ = someEnd _ _
  rw [hd]
  simp only [someEnd]
  rw [← hd, hs]; simp

theorem Inv.no {P N : List UInt8} {sn p n : Nat} (h : Inv P N 0 sn p n) (hn : n < N.length) (hno : ∀ hp : p < P.length, P[p] ≠ 42 ∧ P[p] ≠ 63 ∧ P[p] ≠ N[n]) : gm P N = false := by
  rw [(h.none rfl).2]; exact stuck hn hno

theorem Inv.atEnd {P N : List UInt8} {st sn p n : Nat} (h : Inv P N st sn p n) (hn : n = N.length) : gm P N = gm (P.drop p) [] := by
  have e : N.drop n = [] := List.drop_eq_nil_of_le (by omega)
  rw [h.whole (Or.inr hn), e]

theorem Inv.sn_le {P N : List UInt8} {st sn p n : Nat} (h : Inv P N st sn p n) : sn ≤ n := by
  by_cases h0 : st = 0
  · have := (h.none h0).1; omega
  · have := (h.some (by omega)).1; omega

theorem tail_star (P : List UInt8) (p : Nat) (hp : p < P.length) (hc : P[p] = 42) : gm (P.drop p) [] = gm (P.drop (p + 1)) [] := by
  rw [drop_cons P p hp, hc]; simp [gm, someEnd]
theorem tail_other (P : List UInt8) (p : Nat) (hp : p < P.length) (hc : P[p] ≠ 42) : gm (P.drop p) [] = false := by
  rw [drop_cons P p hp]; simp [gm, hc]
theorem tail_end (P : List UInt8) (p : Nat) (hp : p = P.length) : gm (P.drop p) [] = true := by
  subst hp; simp [gm]

/-- The search's measure goes down. -/
def meas (lp ln sn p : Nat) : Nat := (ln - sn) * (lp + 1) + (lp - p)
theorem meas_step {lp ln sn sn' p : Nat} (hp : p < lp) (hs : sn ≤ sn') : meas lp ln sn' (p + 1) < meas lp ln sn p := by
  unfold meas
  have : (ln - sn') * (lp + 1) ≤ (ln - sn) * (lp + 1) := Nat.mul_le_mul_right _ (by omega)
  omega
theorem meas_back {lp ln sn p p' : Nat} (hs : sn < ln) : meas lp ln (sn + 1) p' < meas lp ln sn p := by
  unfold meas
  have : (ln - sn) * (lp + 1) = (ln - (sn + 1)) * (lp + 1) + (lp + 1) := by
    rw [show ln - sn = (ln - (sn + 1)) + 1 by omega, Nat.add_mul]; simp
  omega

/-! ### the table -/
theorem gm_any (n : List UInt8) : gm [42] n = true := (gm_star _ _).2 ⟨n.length, Nat.le_refl _, by simp [gm]⟩
theorem tab_star (p n : List UInt8) (j : Nat) (hj : j < n.length) : gm (p ++ [42]) (n.take (j + 1)) = (gm p (n.take (j + 1)) || gm (p ++ [42]) (n.take j)) := by
  rw [Bool.eq_iff_iff]
  simp only [Bool.or_eq_true, gm_append]
  constructor
  · rintro ⟨k, hk, h1, h2⟩
    simp only [List.length_take] at hk
    by_cases he : k = j + 1
    · subst he
      left
      rw [List.take_take, Nat.min_self] at h1
      exact h1
    · right
      refine ⟨k, by simp; omega, ?_, gm_any _⟩
      rw [List.take_take] at h1 ⊢
      rw [show min k (j + 1) = min k j by omega] at h1
      exact h1
  · rintro (h | ⟨k, hk, h1, h2⟩)
    · exact ⟨j + 1, by simp; omega, by rw [List.take_take, Nat.min_self]; exact h, gm_any _⟩
    · simp only [List.length_take] at hk
      refine ⟨k, by simp; omega, ?_, gm_any _⟩
      rw [List.take_take] at h1 ⊢
      rw [show min k (j + 1) = min k j by omega]
      exact h1
theorem tab_star0 (p : List UInt8) : gm (p ++ [42]) [] = gm p [] := by
  rw [Bool.eq_iff_iff]
  simp only [gm_append]
  constructor
  · rintro ⟨k, hk, h1, h2⟩; simpa using h1
  · intro h; exact ⟨0, by simp, by simpa using h, by simp [gm, someEnd]⟩
theorem tab_one {c : UInt8} (hc : c ≠ 42) (p n : List UInt8) (j : Nat) (hj : j < n.length) : gm (p ++ [c]) (n.take (j + 1)) = (gm p (n.take j) && (c == 63 || c == n[j])) := by
  rw [Bool.eq_iff_iff]
  simp only [Bool.and_eq_true, Bool.or_eq_true, beq_iff_eq, gm_append]
  constructor
  · rintro ⟨k, hk, h1, h2⟩
    obtain ⟨x, n', hn, hx, hg⟩ := (gm_one hc _ _).1 h2
    rw [gm_nil] at hg; subst hg
    have hl := congrArg List.length hn
    simp at hl hk
    have e : k = j := by omega
    subst e
    rw [List.take_succ_eq_append_getElem hj] at hn h1
    rw [List.drop_append_of_le_length (by simp; omega), List.drop_eq_nil_of_le (by simp; omega)] at hn
    simp at hn
    rw [List.take_append_of_le_length (by simp; omega)] at h1
    simp only [List.take_take, Nat.min_self] at h1
    subst hn
    exact ⟨h1, hx⟩
  · rintro ⟨h1, hx⟩
    refine ⟨j, by simp; omega, ?_, (gm_one hc _ _).2 ⟨n[j], [], ?_, hx, by simp [gm]⟩⟩
    · rw [List.take_take, show min j (j + 1) = j by omega]; exact h1
    · rw [List.take_succ_eq_append_getElem hj, List.drop_append_of_le_length (by simp; omega), List.drop_eq_nil_of_le (by simp; omega)]
      rfl
theorem tab_one0 {c : UInt8} (hc : c ≠ 42) (p : List UInt8) : gm (p ++ [c]) [] = false := by
  rw [Bool.eq_false_iff]
  intro h
  obtain ⟨k, hk, h1, h2⟩ := (gm_append _ _ _).1 h
  obtain ⟨x, n', hn, _⟩ := (gm_one hc _ _).1 h2
  simp at hn

end Go.Proofs.Qxb6604267aMods.Glob
