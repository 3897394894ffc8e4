import Derived.Test.Qxb6603037aStrPlain
import Derived.Test.Qxb6603037aNumPlain
/- Where a JSON value ends: what a scan over brackets and strings comes to, over bytes given as 'f : Nat → Int' and their number n; no Go in sight. -/
namespace Go.Proofs.Qxb6603037a.Val
open Go.Proofs.Qxb6603037a.Str (V V_le)

def wsB (c : Int) : Bool := decide (c = 32 ∨ c = 9 ∨ c = 10 ∨ c = 13)
def endB (c : Int) : Bool := decide (c = 32 ∨ c = 9 ∨ c = 10 ∨ c = 13 ∨ c = 44 ∨ c = 93 ∨ c = 125)
def opB (c : Int) : Bool := decide (c = 123 ∨ c = 91)
def clB (c : Int) : Bool := decide (c = 125 ∨ c = 93)
/-- a byte that the scan steps over -/
def plB (c : Int) : Bool := decide (c ≠ 34) && !opB c && !clB c
/-- a byte of a number, true, false or null -/
def litB (c : Int) : Bool := decide ((48 ≤ c ∧ c ≤ 57) ∨ (97 ≤ c ∧ c ≤ 122) ∨ c = 43 ∨ c = 45 ∨ c = 46 ∨ c = 69)

theorem ws_pl (c : Int) (h : wsB c = true) : plB c = true := by
  simp only [wsB, decide_eq_true_eq] at h
  rcases h with rfl | rfl | rfl | rfl <;> decide
theorem lit_pl (c : Int) (h : litB c = true) : plB c = true := by
  simp only [litB, decide_eq_true_eq] at h
  simp only [plB, opB, clB, Bool.and_eq_true, Bool.not_eq_true', decide_eq_true_eq, decide_eq_false_iff_not]
  omega
theorem lit_end (c : Int) (h : litB c = true) : endB c = false := by
  simp only [litB, decide_eq_true_eq] at h
  simp only [endB, decide_eq_false_iff_not]
  omega
theorem comma_pl : plB 44 = true := by decide
theorem colon_pl : plB 58 = true := by decide
theorem op_ne (c : Int) (h : opB c = true) : c ≠ 34 ∧ clB c = false := by
  simp only [opB, decide_eq_true_eq] at h
  rcases h with rfl | rfl <;> decide
theorem cl_ne (c : Int) (h : clB c = true) : c ≠ 34 ∧ opB c = false := by
  simp only [clB, decide_eq_true_eq] at h
  rcases h with rfl | rfl <;> decide
theorem pl_parts (c : Int) (h : plB c = true) : c ≠ 34 ∧ opB c = false ∧ clB c = false := by
  simp only [plB, Bool.and_eq_true, Bool.not_eq_true', decide_eq_true_eq] at h
  exact ⟨h.1.1, h.1.2, h.2⟩

/-! ### stepping over bytes of one kind -/

def rg (p : Int → Bool) (f : Nat → Int) (n : Nat) : Nat → Nat → Nat
  | 0, i => i
  | k + 1, i => if i < n ∧ p (f i) = true then rg p f n k (i + 1) else i

theorem rg_out (p : Int → Bool) (f : Nat → Int) (n k i : Nat) (h : ¬ (i < n ∧ p (f i) = true)) : rg p f n k i = i := by
  cases k with
  | zero => rfl
  | succ k => simp only [rg]; rw [if_neg h]

theorem rg_fuel (p : Int → Bool) (f : Nat → Int) (n : Nat) (k : Nat) : ∀ k' i, n - i ≤ k → n - i ≤ k' → rg p f n k i = rg p f n k' i := by
  induction k with
  | zero =>
    intro k' i h _
    rw [rg_out p f n 0 i (by omega), rg_out p f n k' i (by omega)]
  | succ k ih =>
    intro k' i h h'
    by_cases hc : i < n ∧ p (f i) = true
    · cases k' with
      | zero => omega
      | succ k' =>
        simp only [rg]
        rw [if_pos hc, if_pos hc]
        exact ih k' _ (by omega) (by omega)
    · rw [rg_out p f n _ i hc, rg_out p f n _ i hc]

/-- the first index from i on whose byte is not of the kind p, or n -/
def R (p : Int → Bool) (f : Nat → Int) (n i : Nat) : Nat := rg p f n n i

theorem R_no (p : Int → Bool) (f : Nat → Int) (n i : Nat) (h : ¬ (i < n ∧ p (f i) = true)) : R p f n i = i := rg_out p f n n i h
theorem R_yes (p : Int → Bool) (f : Nat → Int) (n i : Nat) (h : i < n) (hd : p (f i) = true) : R p f n i = R p f n (i + 1) := by
  unfold R
  obtain ⟨m, rfl⟩ : ∃ m, n = m + 1 := ⟨n - 1, by omega⟩
  show rg p f (m + 1) (m + 1) i = _
  simp only [rg]
  rw [if_pos ⟨h, hd⟩, rg_fuel p f (m + 1) m (m + 1) (i + 1) (by omega) (by omega)]
  simp only [rg]
theorem R_bd (p : Int → Bool) (f : Nat → Int) (n : Nat) : ∀ d i, n - i ≤ d → i ≤ n →
    i ≤ R p f n i ∧ R p f n i ≤ n ∧ ¬ (R p f n i < n ∧ p (f (R p f n i)) = true) ∧ ∀ j, i ≤ j → j < R p f n i → p (f j) = true := by
  intro d
  induction d with
  | zero =>
    intro i h hi
    rw [R_no p f n i (by omega)]
    exact ⟨by omega, by omega, by omega, fun j _ _ => by omega⟩
  | succ d ih =>
    intro i h hi
    by_cases hc : i < n ∧ p (f i) = true
    · rw [R_yes p f n i hc.1 hc.2]
      obtain ⟨h1, h2, h3, h4⟩ := ih (i + 1) (by omega) (by omega)
      refine ⟨by omega, h2, h3, fun j hj hj' => ?_⟩
      by_cases e : j = i
      · subst e; exact hc.2
      · exact h4 j (by omega) hj'
    · rw [R_no p f n i hc]
      exact ⟨by omega, by omega, hc, fun j _ _ => by omega⟩

/-- past the white space -/
def W (f : Nat → Int) (n i : Nat) : Nat := R wsB f n i
theorem W_le (f : Nat → Int) (n i : Nat) (hi : i ≤ n) : i ≤ W f n i ∧ W f n i ≤ n := by
  have := R_bd wsB f n (n - i) i (by omega) hi
  exact ⟨this.1, this.2.1⟩
theorem W_pl (f : Nat → Int) (n i : Nat) (hi : i ≤ n) : ∀ j, i ≤ j → j < W f n i → plB (f j) = true := fun j h1 h2 =>
  ws_pl _ ((R_bd wsB f n (n - i) i (by omega) hi).2.2.2 j h1 h2)

/-! ### the scan over brackets and strings -/

def sc (f : Nat → Int) (n : Nat) : Nat → Nat → Nat → Option Nat
  | 0, _, _ => none
  | k + 1, i, dep =>
    if i < n then
      if f i = 34 then (if (V f n (i + 1)).1 = true then sc f n k (V f n (i + 1)).2 dep else none)
      else if opB (f i) = true then sc f n k (i + 1) (dep + 1)
      else if clB (f i) = true then (if dep = 1 then some (i + 1) else if dep = 0 then none else sc f n k (i + 1) (dep - 1))
      else sc f n k (i + 1) dep
    else none

/-- From i, with dep brackets open, the scan closes the last one just ahead of e. -/
def P (f : Nat → Int) (n i dep e : Nat) : Prop := ∃ k, sc f n k i dep = some e

theorem P_str {f : Nat → Int} {n i m dep e : Nat} (hi : i < n) (h : f i = 34) (hV : V f n (i + 1) = (true, m)) (hP : P f n m dep e) : P f n i dep e := by
  obtain ⟨k, hk⟩ := hP
  refine ⟨k + 1, ?_⟩
  simp only [sc]
  rw [if_pos hi, if_pos h, hV]
  simpa using hk
theorem P_open {f : Nat → Int} {n i dep e : Nat} (hi : i < n) (h : opB (f i) = true) (hP : P f n (i + 1) (dep + 1) e) : P f n i dep e := by
  obtain ⟨k, hk⟩ := hP
  refine ⟨k + 1, ?_⟩
  simp only [sc]
  rw [if_pos hi, if_neg (op_ne _ h).1, if_pos h]
  exact hk
theorem P_close {f : Nat → Int} {n i dep e : Nat} (hi : i < n) (h : clB (f i) = true) (hd : 1 ≤ dep) (hP : P f n (i + 1) dep e) : P f n i (dep + 1) e := by
  obtain ⟨k, hk⟩ := hP
  refine ⟨k + 1, ?_⟩
  simp only [sc]
  rw [if_pos hi, if_neg (cl_ne _ h).1, if_neg (by simp [(cl_ne _ h).2]), if_pos h, if_neg (by omega), if_neg (by omega), Nat.add_sub_cancel]
  exact hk
theorem P_last {f : Nat → Int} {n i : Nat} (hi : i < n) (h : clB (f i) = true) : P f n i 1 (i + 1) := by
  refine ⟨1, ?_⟩
  simp only [sc]
  rw [if_pos hi, if_neg (cl_ne _ h).1, if_neg (by simp [(cl_ne _ h).2]), if_pos h]
  rfl
theorem P_plain {f : Nat → Int} {n i dep e : Nat} (hi : i < n) (h : plB (f i) = true) (hP : P f n (i + 1) dep e) : P f n i dep e := by
  obtain ⟨k, hk⟩ := hP
  obtain ⟨h1, h2, h3⟩ := pl_parts _ h
  refine ⟨k + 1, ?_⟩
  simp only [sc]
  rw [if_pos hi, if_neg h1, if_neg (by simp [h2]), if_neg (by simp [h3])]
  exact hk
theorem P_run {f : Nat → Int} {n dep e : Nat} (m : Nat) (hm : m ≤ n) : ∀ d i, m - i ≤ d → i ≤ m → (∀ j, i ≤ j → j < m → plB (f j) = true) → P f n m dep e → P f n i dep e := by
  intro d
  induction d with
  | zero =>
    intro i h hi _ hP
    obtain rfl : i = m := by omega
    exact hP
  | succ d ih =>
    intro i h hi hall hP
    by_cases e : i = m
    · subst e; exact hP
    · exact P_plain (by omega) (hall i (by omega) (by omega)) (ih (i + 1) (by omega) (by omega) (fun j h1 h2 => hall j (by omega) h2) hP)
theorem P_ws {f : Nat → Int} {n i dep e : Nat} (hi : i ≤ n) (hP : P f n (W f n i) dep e) : P f n i dep e :=
  P_run (W f n i) (W_le f n i hi).2 (W f n i - i) i (by omega) (W_le f n i hi).1 (W_pl f n i hi) hP

theorem P_inv {f : Nat → Int} {n i dep e : Nat} (hP : P f n i dep e) :
    i < n ∧ ((f i = 34 ∧ ∃ m, V f n (i + 1) = (true, m) ∧ P f n m dep e) ∨ (f i ≠ 34 ∧ opB (f i) = true ∧ P f n (i + 1) (dep + 1) e) ∨
      (f i ≠ 34 ∧ opB (f i) = false ∧ clB (f i) = true ∧ dep = 1 ∧ e = i + 1) ∨ (f i ≠ 34 ∧ opB (f i) = false ∧ clB (f i) = true ∧ 2 ≤ dep ∧ P f n (i + 1) (dep - 1) e) ∨
      (f i ≠ 34 ∧ opB (f i) = false ∧ clB (f i) = false ∧ P f n (i + 1) dep e)) := by
  obtain ⟨k, hk⟩ := hP
  cases k with
  | zero => cases hk
  | succ k =>
    simp only [sc] at hk
    by_cases h0 : i < n
    · rw [if_pos h0] at hk
      refine ⟨h0, ?_⟩
      by_cases h1 : f i = 34
      · rw [if_pos h1] at hk
        left
        refine ⟨h1, ?_⟩
        by_cases h2 : (V f n (i + 1)).1 = true
        · rw [if_pos h2] at hk
          exact ⟨(V f n (i + 1)).2, by rw [← h2], k, hk⟩
        · rw [if_neg h2] at hk; cases hk
      · rw [if_neg h1] at hk
        right
        by_cases h2 : opB (f i) = true
        · rw [if_pos h2] at hk
          exact Or.inl ⟨h1, h2, k, hk⟩
        · rw [if_neg h2] at hk
          right
          have h2' : opB (f i) = false := by simpa using h2
          by_cases h3 : clB (f i) = true
          · rw [if_pos h3] at hk
            by_cases h4 : dep = 1
            · rw [if_pos h4] at hk
              exact Or.inl ⟨h1, h2', h3, h4, by simpa using hk.symm⟩
            · rw [if_neg h4] at hk
              by_cases h5 : dep = 0
              · rw [if_pos h5] at hk; cases hk
              · rw [if_neg h5] at hk
                exact Or.inr (Or.inl ⟨h1, h2', h3, by omega, k, hk⟩)
          · rw [if_neg h3] at hk
            exact Or.inr (Or.inr ⟨h1, h2', by simpa using h3, k, hk⟩)
    · rw [if_neg h0] at hk; cases hk

/-! ### scalars, keys, values -/

/-- a string, number, true, false or null from i to e -/
def Scal (f : Nat → Int) (n i e : Nat) : Prop :=
  i ≤ e ∧ e ≤ n ∧ ((f i = 34 ∧ V f n (i + 1) = (true, e)) ∨ (f i ≠ 34 ∧ opB (f i) = false ∧ ∀ j, i ≤ j → j < e → litB (f j) = true))

theorem P_scal {f : Nat → Int} {n i e dep x : Nat} (hi : i < n) (h : Scal f n i e) (hP : P f n e dep x) : P f n i dep x := by
  obtain ⟨h1, h2, h3⟩ := h
  rcases h3 with ⟨ha, hb⟩ | ⟨_, _, hc⟩
  · exact P_str hi ha hb hP
  · exact P_run e h2 (e - i) i (by omega) h1 (fun j ha hb => lit_pl _ (hc j ha hb)) hP

/-- What the scanner's 'value' needs of a value that starts at s and ends at e. -/
def Done (f : Nat → Int) (n s e : Nat) : Prop :=
  s < n ∧ s ≤ e ∧ e ≤ n ∧ ((f s = 34 ∧ V f n (s + 1) = (true, e)) ∨ (opB (f s) = true ∧ P f n s 0 e) ∨ (f s ≠ 34 ∧ opB (f s) = false ∧ ∀ j, s ≤ j → j < e → endB (f j) = false))

theorem done_scal {f : Nat → Int} {n s e : Nat} (hs : s < n) (h : Scal f n s e) : Done f n s e := by
  obtain ⟨h1, h2, h3⟩ := h
  refine ⟨hs, h1, h2, ?_⟩
  rcases h3 with h | ⟨ha, hb, hc⟩
  · exact Or.inl h
  · exact Or.inr (Or.inr ⟨ha, hb, fun j h1 h2 => lit_end _ (hc j h1 h2)⟩)

/-- before a value at k, dep containers open -/
def Head (f : Nat → Int) (n s k dep : Nat) : Prop :=
  (dep = 0 ∧ k = s) ∨ (1 ≤ dep ∧ s < n ∧ s ≤ k ∧ opB (f s) = true ∧ ∀ x, P f n k dep x → P f n s 0 x)
/-- behind a value that ends at k, dep containers open -/
def After (f : Nat → Int) (n s k dep : Nat) : Prop :=
  (dep = 0 ∧ Done f n s k) ∨ (1 ≤ dep ∧ s < n ∧ s ≤ k ∧ opB (f s) = true ∧ ∀ x, P f n k dep x → P f n s 0 x)
/-- from j to m all is stepped over -/
def Skips (f : Nat → Int) (n j m : Nat) : Prop := j ≤ m ∧ m ≤ n ∧ ∀ dep x, P f n m dep x → P f n j dep x

theorem skips_ws {f : Nat → Int} {n i : Nat} (hi : i ≤ n) : Skips f n i (W f n i) := ⟨(W_le f n i hi).1, (W_le f n i hi).2, fun _ _ h => P_ws hi h⟩
theorem Skips.trans {f : Nat → Int} {n a b c : Nat} (h : Skips f n a b) (k : Skips f n b c) : Skips f n a c := ⟨by have := h.1; have := k.1; omega, k.2.1, fun d x p => h.2.2 d x (k.2.2 d x p)⟩
theorem skips_one {f : Nat → Int} {n i : Nat} (hi : i < n) (h : plB (f i) = true) : Skips f n i (i + 1) := ⟨by omega, by omega, fun _ _ p => P_plain hi h p⟩
theorem skips_str {f : Nat → Int} {n i m : Nat} (hi : i < n) (h : f i = 34) (hV : V f n (i + 1) = (true, m)) (hm : i ≤ m) (hn : m ≤ n) : Skips f n i m := ⟨hm, hn, fun _ _ p => P_str hi h hV p⟩
theorem skips_scal {f : Nat → Int} {n i m : Nat} (hi : i < n) (h : Scal f n i m) : Skips f n i m := ⟨h.1, h.2.1, fun _ _ p => P_scal hi h p⟩

/-- an empty container -/
theorem head_empty {f : Nat → Int} {n s k j dep : Nat} (h : Head f n s k dep) (hk : k < n) (ho : opB (f k) = true) (hj : Skips f n (k + 1) j) (hjn : j < n) (hc : clB (f j) = true) : After f n s (j + 1) dep := by
  have h1 := hj.1
  rcases h with ⟨rfl, rfl⟩ | ⟨hd, hs, hsk, hos, hP⟩
  · refine Or.inl ⟨rfl, hk, by omega, by omega, Or.inr (Or.inl ⟨ho, ?_⟩)⟩
    exact P_open hk ho (hj.2.2 _ _ (P_last hjn hc))
  · refine Or.inr ⟨hd, hs, by omega, hos, fun x hx => hP x ?_⟩
    exact P_open hk ho (hj.2.2 _ _ (P_close hjn hc hd hx))
/-- a container that has something in it -/
theorem head_open {f : Nat → Int} {n s k j dep : Nat} (h : Head f n s k dep) (hk : k < n) (ho : opB (f k) = true) (hj : Skips f n (k + 1) j) : Head f n s j (dep + 1) := by
  have h1 := hj.1
  rcases h with ⟨rfl, rfl⟩ | ⟨hd, hs, hsk, hos, hP⟩
  · exact Or.inr ⟨by omega, hk, by omega, ho, fun x hx => P_open hk ho (hj.2.2 _ _ hx)⟩
  · exact Or.inr ⟨by omega, hs, by omega, hos, fun x hx => hP x (P_open hk ho (hj.2.2 _ _ hx))⟩
theorem head_scal {f : Nat → Int} {n s k e dep : Nat} (h : Head f n s k dep) (hk : k < n) (he : Scal f n k e) : After f n s e dep := by
  rcases h with ⟨rfl, rfl⟩ | ⟨hd, hs, hsk, hos, hP⟩
  · exact Or.inl ⟨rfl, done_scal hk he⟩
  · have h1 := he.1
    exact Or.inr ⟨hd, hs, by omega, hos, fun x hx => hP x (P_scal hk he hx)⟩
theorem after_done {f : Nat → Int} {n s k : Nat} (h : After f n s k 0) : Done f n s k := by
  rcases h with ⟨_, h⟩ | ⟨h, _⟩
  · exact h
  · omega
/-- a comma, and on to the next value -/
theorem after_comma {f : Nat → Int} {n s k j dep : Nat} (h : After f n s k dep) (hd : 1 ≤ dep) (hj : Skips f n k j) : Head f n s j dep := by
  have h1 := hj.1
  rcases h with ⟨rfl, _⟩ | ⟨_, hs, hsk, hos, hP⟩
  · omega
  · exact Or.inr ⟨hd, hs, by omega, hos, fun x hx => hP x (hj.2.2 _ _ hx)⟩
/-- a closing bracket -/
theorem after_close {f : Nat → Int} {n s k j dep : Nat} (h : After f n s k (dep + 1)) (hj : Skips f n k j) (hjn : j < n) (hc : clB (f j) = true) : After f n s (j + 1) dep := by
  have h1 := hj.1
  rcases h with ⟨h0, _⟩ | ⟨_, hs, hsk, hos, hP⟩
  · omega
  · by_cases hd : dep = 0
    · subst hd
      exact Or.inl ⟨rfl, hs, by omega, by omega, Or.inr (Or.inl ⟨hos, hP _ (hj.2.2 _ _ (P_last hjn hc))⟩)⟩
    · exact Or.inr ⟨by omega, hs, by omega, hos, fun x hx => hP x (hj.2.2 _ _ (P_close hjn hc (by omega) hx))⟩

/-! ### a number's bytes -/
open Go.Proofs.Qxb6603037a.Num (A A_in A_out nxt nxt_bd num A_num acc)

theorem nxt_lit (s : Nat) (c : Int) (h : ¬ nxt s c < 0) : litB c = true := by
  have key : (48 ≤ c ∧ c ≤ 57) ∨ c = 43 ∨ c = 45 ∨ c = 46 ∨ c = 69 ∨ c = 101 := by
    unfold nxt at h
    simp only [Num.digB, Num.expB, Num.sgnB, decide_eq_true_eq] at h
    repeat' split at h
    all_goals omega
  simp only [litB, decide_eq_true_eq]
  omega

theorem A_lit (f : Nat → Int) (n : Nat) : ∀ d s i ok e, n - i ≤ d → i ≤ n → A f n s i = (ok, e) → i ≤ e ∧ e ≤ n ∧ ∀ j, i ≤ j → j < e → litB (f j) = true := by
  intro d
  induction d with
  | zero =>
    intro s i ok e h hi hA
    rw [A_out f n s i (by omega)] at hA
    simp only [Prod.mk.injEq] at hA
    exact ⟨by omega, by omega, fun j _ _ => by omega⟩
  | succ d ih =>
    intro s i ok e h hi hA
    by_cases h0 : i < n
    · rw [A_in f n s i h0] at hA
      by_cases hx : nxt s (f i) < 0
      · rw [if_pos hx] at hA
        simp only [Prod.mk.injEq] at hA
        exact ⟨by omega, by omega, fun j _ _ => by omega⟩
      · rw [if_neg hx] at hA
        obtain ⟨h1, h2, h3⟩ := ih _ (i + 1) ok e (by omega) (by omega) hA
        refine ⟨by omega, h2, fun j hj hj' => ?_⟩
        by_cases e : j = i
        · subst e; exact nxt_lit _ _ hx
        · exact h3 j (by omega) hj'
    · rw [A_out f n s i (by omega)] at hA
      simp only [Prod.mk.injEq] at hA
      exact ⟨by omega, by omega, fun j _ _ => by omega⟩

theorem scal_num (f : Nat → Int) (n i : Nat) (hi : i < n) (h34 : f i ≠ 34) (ho : opB (f i) = false) : Scal f n i (num f n i).2 := by
  have hA := A_lit f n n 0 i (num f n i).1 (num f n i).2 (by omega) (by omega) (A_num f n i hi)
  exact ⟨hA.1, hA.2.1, Or.inr ⟨h34, ho, hA.2.2⟩⟩

theorem scal_str (f : Nat → Int) (n i e : Nat) (hi : i < n) (h34 : f i = 34) (hV : V f n (i + 1) = (true, e)) : Scal f n i e := by
  have h := V_le f n n (i + 1) (by omega) (by omega)
  rw [hV] at h
  simp only at h
  exact ⟨by omega, h.2, Or.inl ⟨h34, hV⟩⟩

end Go.Proofs.Qxb6603037a.Val
