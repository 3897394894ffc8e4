/- The JSON number automaton and a reading by parts, over bytes given as 'f : Nat → Int' and their number n; no Go in sight. -/
namespace Go.Proofs.Qxb6603037a.Num

def digB (c : Int) : Bool := decide (48 ≤ c ∧ c ≤ 57)
def expB (c : Int) : Bool := decide (c = 101 ∨ c = 69)
def sgnB (c : Int) : Bool := decide (c = 43 ∨ c = 45)

def nxt : Nat → Int → Int
  | 0, c => if c = 45 then 1 else if c = 48 then 2 else if digB c = true then 3 else -1
  | 1, c => if c = 48 then 2 else if digB c = true then 3 else -1
  | 2, c => if c = 46 then 4 else if expB c = true then 6 else -1
  | 3, c => if digB c = true then 3 else if c = 46 then 4 else if expB c = true then 6 else -1
  | 4, c => if digB c = true then 5 else -1
  | 5, c => if digB c = true then 5 else if expB c = true then 6 else -1
  | 6, c => if sgnB c = true then 7 else if digB c = true then 8 else -1
  | 7, c => if digB c = true then 8 else -1
  | 8, c => if digB c = true then 8 else -1
  | _, _ => -1

def acc (s : Nat) : Bool := decide (s = 2 ∨ s = 3 ∨ s = 5 ∨ s = 8)

theorem nxt_bd (s : Nat) (c : Int) : -1 ≤ nxt s c ∧ nxt s c ≤ 8 := by
  unfold nxt
  repeat' split
  all_goals omega

def au (f : Nat → Int) (n : Nat) : Nat → Nat → Nat → Bool × Nat
  | 0, s, _ => (acc s, n)
  | k + 1, s, i => if i < n then (if nxt s (f i) < 0 then (acc s, i) else au f n k (nxt s (f i)).toNat (i + 1)) else (acc s, n)

theorem au_out (f : Nat → Int) (n k s i : Nat) (h : n ≤ i) : au f n k s i = (acc s, n) := by
  cases k with
  | zero => rfl
  | succ k => simp only [au]; rw [if_neg (by omega)]

theorem au_fuel (f : Nat → Int) (n : Nat) (k : Nat) : ∀ k' s i, n - i ≤ k → n - i ≤ k' → au f n k s i = au f n k' s i := by
  induction k with
  | zero =>
    intro k' s i h _
    rw [au_out f n 0 s i (by omega), au_out f n k' s i (by omega)]
  | succ k ih =>
    intro k' s i h h'
    cases k' with
    | zero => rw [au_out f n _ s i (by omega), au_out f n _ s i (by omega)]
    | succ k' =>
      simp only [au]
      split
      · split
        · rfl
        · exact ih k' _ _ (by omega) (by omega)
      · rfl

def A (f : Nat → Int) (n s i : Nat) : Bool × Nat := au f n n s i

theorem A_out (f : Nat → Int) (n s i : Nat) (h : n ≤ i) : A f n s i = (acc s, n) := au_out f n n s i h
theorem A_in (f : Nat → Int) (n s i : Nat) (h : i < n) : A f n s i = if nxt s (f i) < 0 then (acc s, i) else A f n (nxt s (f i)).toNat (i + 1) := by
  unfold A
  obtain ⟨m, rfl⟩ : ∃ m, n = m + 1 := ⟨n - 1, by omega⟩
  show au f (m + 1) (m + 1) s i = _
  simp only [au]
  rw [if_pos h]
  split
  · rfl
  · rw [au_fuel f (m + 1) m (m + 1) _ (i + 1) (by omega) (by omega)]
    simp only [au]
theorem A_stop (f : Nat → Int) (n s i : Nat) (h : i < n) (hx : nxt s (f i) < 0) : A f n s i = (acc s, i) := by
  rw [A_in f n s i h, if_pos hx]
theorem A_go (f : Nat → Int) (n s s' i : Nat) (h : i < n) (hx : nxt s (f i) = (s' : Int)) : A f n s i = A f n s' (i + 1) := by
  rw [A_in f n s i h, hx, if_neg (by omega), Int.toNat_natCast]

/-! ### the digits -/

def dg (f : Nat → Int) (n : Nat) : Nat → Nat → Nat
  | 0, i => i
  | k + 1, i => if i < n ∧ digB (f i) = true then dg f n k (i + 1) else i

theorem dg_out (f : Nat → Int) (n k i : Nat) (h : ¬ (i < n ∧ digB (f i) = true)) : dg f n k i = i := by
  cases k with
  | zero => rfl
  | succ k => simp only [dg]; rw [if_neg h]

theorem dg_fuel (f : Nat → Int) (n : Nat) (k : Nat) : ∀ k' i, n - i ≤ k → n - i ≤ k' → dg f n k i = dg f n k' i := by
  induction k with
  | zero =>
    intro k' i h _
    rw [dg_out f n 0 i (by omega), dg_out f n k' i (by omega)]
  | succ k ih =>
    intro k' i h h'
    by_cases hc : i < n ∧ digB (f i) = true
    · cases k' with
      | zero => omega
      | succ k' =>
        simp only [dg]
        rw [if_pos hc, if_pos hc]
        exact ih k' _ (by omega) (by omega)
    · rw [dg_out f n _ i hc, dg_out f n _ i hc]

/-- where the digits that start at i end -/
def D (f : Nat → Int) (n i : Nat) : Nat := dg f n n i

theorem D_no (f : Nat → Int) (n i : Nat) (h : ¬ (i < n ∧ digB (f i) = true)) : D f n i = i := dg_out f n n i h
theorem D_yes (f : Nat → Int) (n i : Nat) (h : i < n) (hd : digB (f i) = true) : D f n i = D f n (i + 1) := by
  unfold D
  obtain ⟨m, rfl⟩ : ∃ m, n = m + 1 := ⟨n - 1, by omega⟩
  show dg f (m + 1) (m + 1) i = _
  simp only [dg]
  rw [if_pos ⟨h, hd⟩, dg_fuel f (m + 1) m (m + 1) (i + 1) (by omega) (by omega)]
  simp only [dg]

theorem D_bd (f : Nat → Int) (n : Nat) : ∀ d i, n - i ≤ d → i ≤ n → i ≤ D f n i ∧ D f n i ≤ n ∧ ¬ (D f n i < n ∧ digB (f (D f n i)) = true) := by
  intro d
  induction d with
  | zero =>
    intro i h hi
    rw [D_no f n i (by omega)]
    exact ⟨by omega, by omega, by omega⟩
  | succ d ih =>
    intro i h hi
    by_cases hc : i < n ∧ digB (f i) = true
    · rw [D_yes f n i hc.1 hc.2]
      have := ih (i + 1) (by omega) (by omega)
      exact ⟨by omega, this.2⟩
    · rw [D_no f n i hc]
      exact ⟨by omega, by omega, hc⟩
theorem D_le (f : Nat → Int) (n i : Nat) (hi : i ≤ n) : i ≤ D f n i ∧ D f n i ≤ n := by
  have := D_bd f n (n - i) i (by omega) hi
  exact ⟨this.1, this.2.1⟩
theorem D_end (f : Nat → Int) (n i : Nat) (hi : i ≤ n) : ¬ (D f n i < n ∧ digB (f (D f n i)) = true) := (D_bd f n (n - i) i (by omega) hi).2.2
theorem D_lt (f : Nat → Int) (n i : Nat) (h : i < n) (hd : digB (f i) = true) : i < D f n i := by
  rw [D_yes f n i h hd]
  have := D_le f n (i + 1) (by omega)
  omega

/-! ### the reading by parts -/

/-- behind the exponent's letter and sign -/
def sg (f : Nat → Int) (n j : Nat) : Nat := if j < n ∧ sgnB (f j) = true then j + 1 else j
def expo (f : Nat → Int) (n i : Nat) : Bool × Nat :=
  if i < n ∧ expB (f i) = true then (decide (sg f n (i + 1) < D f n (sg f n (i + 1))), D f n (sg f n (i + 1))) else (true, i)
def frac (f : Nat → Int) (n i : Nat) : Bool × Nat :=
  if i < n ∧ f i = 46 then (if i + 1 < D f n (i + 1) then expo f n (D f n (i + 1)) else (false, D f n (i + 1))) else expo f n i
def whole (f : Nat → Int) (n i : Nat) : Bool × Nat :=
  if i < n ∧ f i = 48 then frac f n (i + 1) else if i < D f n i then frac f n (D f n i) else (false, D f n i)
def num (f : Nat → Int) (n a : Nat) : Bool × Nat := if f a = 45 then whole f n (a + 1) else whole f n a

theorem dig_ne (c : Int) (h : digB c = true) : c ≠ 46 ∧ expB c = false ∧ sgnB c = false ∧ c ≠ 45 := by
  simp only [digB, decide_eq_true_eq] at h
  refine ⟨by omega, ?_, ?_, by omega⟩
  · simp only [expB, decide_eq_false_iff_not]; omega
  · simp only [sgnB, decide_eq_false_iff_not]; omega
theorem dig48 : digB 48 = true := by decide
theorem exp_ne (c : Int) (h : expB c = true) : digB c = false ∧ c ≠ 46 := by
  simp only [expB, decide_eq_true_eq] at h
  refine ⟨?_, by omega⟩
  simp only [digB, decide_eq_false_iff_not]; omega
theorem sgn_ne (c : Int) (h : sgnB c = true) : digB c = false := by
  simp only [sgnB, decide_eq_true_eq] at h
  simp only [digB, decide_eq_false_iff_not]; omega

theorem A8 (f : Nat → Int) (n : Nat) : ∀ d i, n - i ≤ d → i ≤ n → A f n 8 i = (true, D f n i) := by
  intro d
  induction d with
  | zero => intro i h hi; rw [A_out f n 8 i (by omega), D_no f n i (by omega)]; simp [acc]; omega
  | succ d ih =>
    intro i h hi
    by_cases h0 : i < n
    · cases hd : digB (f i) with
      | true => rw [A_go f n 8 8 i h0 (by simp [nxt, hd]), D_yes f n i h0 hd]; exact ih (i + 1) (by omega) (by omega)
      | false => rw [A_stop f n 8 i h0 (by simp [nxt, hd]), D_no f n i (by simp [hd])]; rfl
    · rw [A_out f n 8 i (by omega), D_no f n i (by omega)]; simp [acc]; omega

theorem A7 (f : Nat → Int) (n i : Nat) (hi : i ≤ n) : A f n 7 i = (decide (i < D f n i), D f n i) := by
  by_cases h0 : i < n
  · cases hd : digB (f i) with
    | true =>
      rw [A_go f n 7 8 i h0 (by simp [nxt, hd]), A8 f n n (i + 1) (by omega) (by omega), ← D_yes f n i h0 hd]
      rw [decide_eq_true (D_lt f n i h0 hd)]
    | false => rw [A_stop f n 7 i h0 (by simp [nxt, hd]), D_no f n i (by simp [hd])]; simp [acc]
  · rw [A_out f n 7 i (by omega), D_no f n i (by omega)]; simp [acc]; omega

theorem A6 (f : Nat → Int) (n i : Nat) (hi : i ≤ n) : A f n 6 i = (decide (sg f n i < D f n (sg f n i)), D f n (sg f n i)) := by
  unfold sg
  by_cases h0 : i < n
  · cases hs : sgnB (f i) with
    | true =>
      rw [A_go f n 6 7 i h0 (by simp [nxt, hs]), A7 f n (i + 1) (by omega), if_pos ⟨h0, rfl⟩]
    | false =>
      rw [if_neg (by simp)]
      cases hd : digB (f i) with
      | true =>
        rw [A_go f n 6 8 i h0 (by simp [nxt, hd, hs]), A8 f n n (i + 1) (by omega) (by omega), ← D_yes f n i h0 hd]
        rw [decide_eq_true (D_lt f n i h0 hd)]
      | false => rw [A_stop f n 6 i h0 (by simp [nxt, hd, hs]), D_no f n i (by simp [hd])]; simp [acc]
  · rw [if_neg (by omega), A_out f n 6 i (by omega), D_no f n i (by omega)]; simp [acc]; omega

theorem A5 (f : Nat → Int) (n : Nat) : ∀ d i, n - i ≤ d → i ≤ n → A f n 5 i = expo f n (D f n i) := by
  intro d
  induction d with
  | zero => intro i h hi; rw [A_out f n 5 i (by omega), D_no f n i (by omega)]; unfold expo; rw [if_neg (by omega)]; simp [acc]; omega
  | succ d ih =>
    intro i h hi
    by_cases h0 : i < n
    · cases hd : digB (f i) with
      | true => rw [A_go f n 5 5 i h0 (by simp [nxt, hd]), D_yes f n i h0 hd]; exact ih (i + 1) (by omega) (by omega)
      | false =>
        rw [D_no f n i (by simp [hd])]
        unfold expo
        cases he : expB (f i) with
        | true => rw [A_go f n 5 6 i h0 (by simp [nxt, hd, he]), A6 f n (i + 1) (by omega), if_pos ⟨h0, rfl⟩]
        | false => rw [A_stop f n 5 i h0 (by simp [nxt, hd, he]), if_neg (by simp)]; simp [acc]
    · rw [A_out f n 5 i (by omega), D_no f n i (by omega)]; unfold expo; rw [if_neg (by omega)]; simp [acc]; omega

theorem A4 (f : Nat → Int) (n i : Nat) (hi : i ≤ n) : A f n 4 i = if i < D f n i then expo f n (D f n i) else (false, D f n i) := by
  by_cases h0 : i < n
  · cases hd : digB (f i) with
    | true =>
      rw [A_go f n 4 5 i h0 (by simp [nxt, hd]), A5 f n n (i + 1) (by omega) (by omega), ← D_yes f n i h0 hd, if_pos (D_lt f n i h0 hd)]
    | false => rw [A_stop f n 4 i h0 (by simp [nxt, hd]), D_no f n i (by simp [hd]), if_neg (by omega)]; simp [acc]
  · rw [A_out f n 4 i (by omega), D_no f n i (by omega), if_neg (by omega)]; simp [acc]; omega

theorem A2 (f : Nat → Int) (n i : Nat) (hi : i ≤ n) : A f n 2 i = frac f n i := by
  unfold frac
  by_cases h0 : i < n
  · by_cases hp : f i = 46
    · rw [A_go f n 2 4 i h0 (by simp [nxt, hp]), if_pos (show i < n ∧ f i = 46 from ⟨h0, hp⟩), A4 f n (i + 1) (by omega)]
    · rw [if_neg (by simp [hp])]
      unfold expo
      cases he : expB (f i) with
      | true => rw [A_go f n 2 6 i h0 (by simp [nxt, hp, he]), A6 f n (i + 1) (by omega), if_pos ⟨h0, rfl⟩]
      | false => rw [A_stop f n 2 i h0 (by simp [nxt, hp, he]), if_neg (by simp)]; simp [acc]
  · rw [A_out f n 2 i (by omega), if_neg (by omega)]; unfold expo; rw [if_neg (by omega)]; simp [acc]; omega

theorem A3 (f : Nat → Int) (n : Nat) : ∀ d i, n - i ≤ d → i ≤ n → A f n 3 i = frac f n (D f n i) := by
  intro d
  induction d with
  | zero => intro i h hi; rw [A_out f n 3 i (by omega), D_no f n i (by omega)]; unfold frac expo; rw [if_neg (by omega), if_neg (by omega)]; simp [acc]; omega
  | succ d ih =>
    intro i h hi
    by_cases h0 : i < n
    · cases hd : digB (f i) with
      | true => rw [A_go f n 3 3 i h0 (by simp [nxt, hd]), D_yes f n i h0 hd]; exact ih (i + 1) (by omega) (by omega)
      | false =>
        rw [D_no f n i (by simp [hd]), ← A2 f n i hi]
        rw [A_in f n 3 i h0, A_in f n 2 i h0]
        simp only [nxt, hd, acc]
        rfl
    · rw [A_out f n 3 i (by omega), D_no f n i (by omega)]; unfold frac expo; rw [if_neg (by omega), if_neg (by omega)]; simp [acc]; omega

theorem A1 (f : Nat → Int) (n i : Nat) (hi : i ≤ n) : A f n 1 i = whole f n i := by
  unfold whole
  by_cases h0 : i < n
  · by_cases hz : f i = 48
    · rw [A_go f n 1 2 i h0 (by simp [nxt, hz]), A2 f n (i + 1) (by omega), if_pos ⟨h0, hz⟩]
    · rw [if_neg (by simp [hz])]
      cases hd : digB (f i) with
      | true => rw [A_go f n 1 3 i h0 (by simp [nxt, hz, hd]), A3 f n n (i + 1) (by omega) (by omega), ← D_yes f n i h0 hd, if_pos (D_lt f n i h0 hd)]
      | false => rw [A_stop f n 1 i h0 (by simp [nxt, hz, hd]), D_no f n i (by simp [hd]), if_neg (by omega)]; simp [acc]
  · rw [A_out f n 1 i (by omega), if_neg (by omega), D_no f n i (by omega), if_neg (by omega)]; simp [acc]; omega

/-- the automaton and the reading by parts agree -/
theorem A_num (f : Nat → Int) (n a : Nat) (ha : a < n) : A f n 0 a = num f n a := by
  unfold num
  by_cases hm : f a = 45
  · rw [A_go f n 0 1 a ha (by simp [nxt, hm]), A1 f n (a + 1) (by omega), if_pos hm]
  · rw [if_neg hm, ← A1 f n a (by omega), A_in f n 0 a ha, A_in f n 1 a ha]
    simp only [nxt, if_neg hm, acc]
    rfl

end Go.Proofs.Qxb6603037a.Num
