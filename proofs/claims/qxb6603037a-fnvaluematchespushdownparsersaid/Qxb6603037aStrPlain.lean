/- What reading a JSON string comes to, over bytes given as 'f : Nat → Int' and their number n; no Go in sight. -/
namespace Go.Proofs.Qxb6603037a.Str

def hexB (c : Int) : Bool := decide ((48 ≤ c ∧ c ≤ 57) ∨ (97 ≤ c ∧ c ≤ 102) ∨ (65 ≤ c ∧ c ≤ 70))
def simB (c : Int) : Bool := decide (c = 34 ∨ c = 92 ∨ c = 47 ∨ c = 98 ∨ c = 102 ∨ c = 110 ∨ c = 114 ∨ c = 116)

/-- l hex digits are still wanted at i, the 'u' stands at u. -/
def hx (f : Nat → Int) (n : Nat) (rec : Nat → Bool × Nat) (u : Nat) : Nat → Nat → Bool × Nat
  | 0, i => rec i
  | l + 1, i => if i < n ∧ hexB (f i) = true then hx f n rec u l (i + 1) else (false, u)

/-- behind a backslash, at i -/
def es (f : Nat → Int) (n : Nat) (rec : Nat → Bool × Nat) (i : Nat) : Bool × Nat :=
  if n ≤ i then (false, n)
  else if simB (f i) = true then rec (i + 1)
  else if f i = 117 then hx f n rec i 4 (i + 1)
  else (false, i)

/-- in plain text, at i -/
def step (f : Nat → Int) (n : Nat) (rec : Nat → Bool × Nat) (i : Nat) : Bool × Nat :=
  if n ≤ i then (false, n)
  else if f i = 34 then (true, i + 1)
  else if f i < 32 then (false, i)
  else if f i = 92 then es f n rec (i + 1)
  else rec (i + 1)

def vs (f : Nat → Int) (n : Nat) : Nat → Nat → Bool × Nat
  | 0, _ => (false, n)
  | k + 1, i => step f n (vs f n k) i

theorem hx_congr (f : Nat → Int) (n : Nat) (r s : Nat → Bool × Nat) (u l i : Nat) (h : r (i + l) = s (i + l)) : hx f n r u l i = hx f n s u l i := by
  induction l generalizing i with
  | zero => exact h
  | succ l ih =>
    simp only [hx]
    split
    · exact ih (i + 1) (by rw [show i + 1 + l = i + (l + 1) by omega]; exact h)
    · rfl

theorem es_congr (f : Nat → Int) (n : Nat) (r s : Nat → Bool × Nat) (i : Nat) (h1 : r (i + 1) = s (i + 1)) (h5 : r (i + 5) = s (i + 5)) : es f n r i = es f n s i := by
  unfold es
  rw [h1, hx_congr f n r s i 4 (i + 1) (by rw [show i + 1 + 4 = i + 5 by omega]; exact h5)]

theorem step_congr (f : Nat → Int) (n : Nat) (r s : Nat → Bool × Nat) (i : Nat) (h : ∀ j, i < j → r j = s j) : step f n r i = step f n s i := by
  unfold step
  rw [h (i + 1) (by omega), es_congr f n r s (i + 1) (h _ (by omega)) (h _ (by omega))]

theorem step_out (f : Nat → Int) (n : Nat) (r : Nat → Bool × Nat) (i : Nat) (h : n ≤ i) : step f n r i = (false, n) := by
  unfold step
  rw [if_pos h]

theorem vs_out (f : Nat → Int) (n k i : Nat) (h : n ≤ i) : vs f n k i = (false, n) := by
  cases k with
  | zero => rfl
  | succ k => exact step_out f n _ i h

theorem vs_fuel (f : Nat → Int) (n : Nat) (k : Nat) : ∀ k' i, n - i ≤ k → n - i ≤ k' → vs f n k i = vs f n k' i := by
  induction k with
  | zero =>
    intro k' i h _
    rw [vs_out f n 0 i (by omega), vs_out f n k' i (by omega)]
  | succ k ih =>
    intro k' i h h'
    cases k' with
    | zero => rw [vs_out f n _ i (by omega), vs_out f n _ i (by omega)]
    | succ k' =>
      simp only [vs]
      exact step_congr f n _ _ i fun j hj => ih k' j (by omega) (by omega)

/-- what reading from i on, in plain text, comes to -/
def V (f : Nat → Int) (n i : Nat) : Bool × Nat := vs f n n i
/-- .. behind a backslash -/
def E (f : Nat → Int) (n i : Nat) : Bool × Nat := es f n (V f n) i
/-- .. with l hex digits wanted -/
def H (f : Nat → Int) (n u l i : Nat) : Bool × Nat := hx f n (V f n) u l i

theorem V_eq (f : Nat → Int) (n i : Nat) : V f n i = step f n (V f n) i := by
  unfold V
  by_cases h : n ≤ i
  · rw [vs_out f n n i h, step_out f n _ i h]
  · obtain ⟨m, rfl⟩ : ∃ m, n = m + 1 := ⟨n - 1, by omega⟩
    show step f (m + 1) (vs f (m + 1) m) i = _
    exact step_congr f (m + 1) _ _ i fun j hj => vs_fuel f (m + 1) m (m + 1) j (by omega) (by omega)

theorem V_out (f : Nat → Int) (n i : Nat) (h : n ≤ i) : V f n i = (false, n) := by rw [V_eq, step_out f n _ i h]
theorem V_quote (f : Nat → Int) (n i : Nat) (h : i < n) (h1 : f i = 34) : V f n i = (true, i + 1) := by
  rw [V_eq]; unfold step; rw [if_neg (by omega), if_pos h1]
theorem V_ctl (f : Nat → Int) (n i : Nat) (h : i < n) (h2 : f i < 32) : V f n i = (false, i) := by
  rw [V_eq]; unfold step; rw [if_neg (by omega), if_neg (by omega), if_pos h2]
theorem V_esc (f : Nat → Int) (n i : Nat) (h : i < n) (h3 : f i = 92) : V f n i = E f n (i + 1) := by
  rw [V_eq]; unfold step E; rw [if_neg (by omega), if_neg (by omega), if_neg (by omega), if_pos h3]
theorem V_step (f : Nat → Int) (n i : Nat) (h : i < n) (h1 : f i ≠ 34) (h2 : 32 ≤ f i) (h3 : f i ≠ 92) : V f n i = V f n (i + 1) := by
  rw [V_eq]; unfold step; rw [if_neg (by omega), if_neg h1, if_neg (by omega), if_neg h3]

theorem E_out (f : Nat → Int) (n i : Nat) (h : n ≤ i) : E f n i = (false, n) := by unfold E es; rw [if_pos h]
theorem E_sim (f : Nat → Int) (n i : Nat) (h : i < n) (h1 : simB (f i) = true) : E f n i = V f n (i + 1) := by
  unfold E es; rw [if_neg (by omega), if_pos h1]
theorem E_u (f : Nat → Int) (n i : Nat) (h : i < n) (h1 : simB (f i) = false) (h2 : f i = 117) : E f n i = H f n i 4 (i + 1) := by
  unfold E es H; rw [if_neg (by omega), if_neg (by simp [h1]), if_pos h2]
theorem E_bad (f : Nat → Int) (n i : Nat) (h : i < n) (h1 : simB (f i) = false) (h2 : f i ≠ 117) : E f n i = (false, i) := by
  unfold E es; rw [if_neg (by omega), if_neg (by simp [h1]), if_neg h2]

theorem H_zero (f : Nat → Int) (n u i : Nat) : H f n u 0 i = V f n i := rfl
theorem H_out (f : Nat → Int) (n u l i : Nat) (h : n ≤ i) : H f n u (l + 1) i = (false, u) := by
  unfold H hx; rw [if_neg (by omega)]
theorem H_bad (f : Nat → Int) (n u l i : Nat) (h : hexB (f i) = false) : H f n u (l + 1) i = (false, u) := by
  unfold H hx; rw [if_neg (by simp [h])]
theorem H_step (f : Nat → Int) (n u l i : Nat) (h : i < n) (h1 : hexB (f i) = true) : H f n u (l + 1) i = H f n u l (i + 1) := by
  show hx f n (V f n) u (l + 1) i = _
  simp only [hx]
  rw [if_pos ⟨h, h1⟩]; rfl

/-- Too short for its digits. -/
theorem H_short (f : Nat → Int) (n u l : Nat) : ∀ i, n < i + l → 0 < l → H f n u l i = (false, u) := by
  induction l with
  | zero => intro i _ h; omega
  | succ l ih =>
    intro i h _
    by_cases h0 : n ≤ i
    · exact H_out f n u l i h0
    · cases hb : hexB (f i) with
      | false => exact H_bad f n u l i hb
      | true =>
        rw [H_step f n u l i (by omega) hb]
        exact ih (i + 1) (by omega) (by omega)

/-- j digits read, all hex. -/
theorem H_run (f : Nat → Int) (n u i : Nat) (l j : Nat) (hn : i + j ≤ n) (hall : ∀ k, k < j → hexB (f (i + k)) = true) : H f n u (j + l) i = H f n u l (i + j) := by
  induction j generalizing i with
  | zero => simp
  | succ j ih =>
    rw [show j + 1 + l = (j + l) + 1 by omega, H_step f n u (j + l) i (by omega) (by simpa using hall 0 (by omega))]
    rw [ih (i + 1) (by omega) (fun k hk => by rw [show i + 1 + k = i + (k + 1) by omega]; exact hall (k + 1) (by omega))]
    rw [show i + 1 + j = i + (j + 1) by omega]

theorem V_le (f : Nat → Int) (n : Nat) : ∀ d i, n - i ≤ d → i ≤ n → i ≤ (V f n i).2 ∧ (V f n i).2 ≤ n := by
  intro d
  induction d with
  | zero => intro i h hi; rw [V_out f n i (by omega)]; simp; omega
  | succ d ih =>
    intro i h hi
    by_cases h0 : n ≤ i
    · rw [V_out f n i h0]; simp; omega
    · rw [V_eq]
      unfold step
      rw [if_neg h0]
      split
      · simp; omega
      · split
        · simp; omega
        · split
          · unfold es
            split
            · simp; omega
            · split
              · have := ih (i + 1 + 1) (by omega) (by omega); omega
              · split
                · have hH : ∀ l j, i + 1 < j → j ≤ n → i + 1 ≤ (hx f n (V f n) (i + 1) l j).2 ∧ (hx f n (V f n) (i + 1) l j).2 ≤ n := by
                    intro l
                    induction l with
                    | zero =>
                      intro j hj hjn
                      have := ih j (by omega) hjn
                      simp only [hx]
                      omega
                    | succ l ihl =>
                      intro j hj hjn
                      simp only [hx]
                      split
                      · next hc => exact ihl (j + 1) (by omega) (by omega)
                      · simp; omega
                  have := hH 4 (i + 1 + 1) (by omega) (by omega)
                  omega
                · simp; omega
          · have := ih (i + 1) (by omega) (by omega); omega

end Go.Proofs.Qxb6603037a.Str
