/- Plain functions on bytes given as 'f : Nat → Int' (the byte at each index); no Go in sight. -/
namespace Go.Proofs.Qxb6602967a.Plain

def letB (n : Int) : Bool := decide ((97 ≤ n ∧ n ≤ 122) ∨ (65 ≤ n ∧ n ≤ 90))
def digB (n : Int) : Bool := decide (48 ≤ n ∧ n ≤ 57)
def alnB (n : Int) : Bool := letB n || digB n
def dashB (n : Int) : Bool := decide (n = 45)

def anyTo (p : Int → Bool) (f : Nat → Int) : Nat → Bool
  | 0 => false
  | k + 1 => anyTo p f k || p (f k)

def allTo (p : Int → Bool) (f : Nat → Int) : Nat → Bool
  | 0 => true
  | k + 1 => allTo p f k && p (f k)

theorem anyTo_iff (p : Int → Bool) (f : Nat → Int) (n : Nat) : anyTo p f n = true ↔ ∃ j, j < n ∧ p (f j) = true := by
  induction n with
  | zero => simp [anyTo]
  | succ k ih =>
    simp only [anyTo, Bool.or_eq_true, ih]
    constructor
    · rintro (⟨j, h, hp⟩ | hp)
      · exact ⟨j, by omega, hp⟩
      · exact ⟨k, by omega, hp⟩
    · rintro ⟨j, h, hp⟩
      by_cases e : j = k
      · subst e; exact Or.inr hp
      · exact Or.inl ⟨j, by omega, hp⟩

theorem allTo_iff (p : Int → Bool) (f : Nat → Int) (n : Nat) : allTo p f n = true ↔ ∀ j, j < n → p (f j) = true := by
  induction n with
  | zero => simp [allTo]
  | succ k ih =>
    simp only [allTo, Bool.and_eq_true, ih]
    constructor
    · rintro ⟨h, hp⟩ j hj
      by_cases e : j = k
      · subst e; exact hp
      · exact h j (by omega)
    · intro h
      exact ⟨fun j hj => h j (by omega), h k (by omega)⟩

theorem allTo_false (p : Int → Bool) (f : Nat → Int) (n k : Nat) (hk : k < n) (hp : p (f k) = false) : allTo p f n = false := by
  cases h : allTo p f n with
  | false => rfl
  | true => rw [(allTo_iff p f n).1 h k hk] at hp; cases hp

/-- what one byte of a toplabel may be -/
def okB (n : Int) : Bool := letB n || dashB n || digB n
/-- what makes it no number -/
def nnB (n : Int) : Bool := letB n || dashB n

def topB (f : Nat → Int) (n : Nat) : Bool :=
  decide (n ≠ 0) && !dashB (f 0) && !dashB (f (n - 1)) && allTo okB f n && anyTo nnB f n

def adB (n : Int) : Bool := dashB n || alnB n

def abnfB (f : Nat → Int) (n : Nat) : Bool :=
  decide (n ≠ 0) && ((allTo alnB f n && anyTo letB f n) || (decide (3 ≤ n) && alnB (f 0) && alnB (f (n - 1)) && anyTo dashB f n && allTo adB f n))

theorem dash_not_aln (n : Int) (h : dashB n = true) : alnB n = false := by
  simp only [dashB, decide_eq_true_eq] at h
  subst h
  decide

theorem ok_ad (n : Int) : okB n = adB n := by
  simp only [okB, adB, alnB]
  cases letB n <;> cases dashB n <;> cases digB n <;> rfl

theorem top_abnf (f : Nat → Int) (n : Nat) : topB f n = abnfB f n := by
  rw [Bool.eq_iff_iff]
  have hok : allTo okB f n = allTo adB f n := by
    rw [Bool.eq_iff_iff, allTo_iff, allTo_iff]
    simp only [ok_ad]
  simp only [topB, abnfB, hok, Bool.and_eq_true, Bool.or_eq_true, Bool.not_eq_true', decide_eq_true_eq]
  constructor
  · rintro ⟨⟨⟨⟨hn, h0⟩, hl⟩, hall⟩, hany⟩
    refine ⟨hn, ?_⟩
    have hA := (allTo_iff adB f n).1 hall
    have aln_of : ∀ j, j < n → dashB (f j) = false → alnB (f j) = true := by
      intro j hj hd
      have := hA j hj
      simpa [adB, hd] using this
    by_cases hd : anyTo dashB f n = true
    · right
      obtain ⟨j, hj, hjd⟩ := (anyTo_iff dashB f n).1 hd
      have j0 : j ≠ 0 := by intro e; subst e; rw [h0] at hjd; cases hjd
      have jl : j ≠ n - 1 := by intro e; subst e; rw [hl] at hjd; cases hjd
      exact ⟨⟨⟨⟨by omega, aln_of 0 (by omega) h0⟩, aln_of (n - 1) (by omega) hl⟩, hd⟩, hall⟩
    · left
      have nod : ∀ j, j < n → dashB (f j) = false := by
        intro j hj
        cases h : dashB (f j) with
        | false => rfl
        | true => exact absurd ((anyTo_iff dashB f n).2 ⟨j, hj, h⟩) hd
      refine ⟨(allTo_iff alnB f n).2 fun j hj => aln_of j hj (nod j hj), ?_⟩
      obtain ⟨j, hj, hjn⟩ := (anyTo_iff nnB f n).1 hany
      refine (anyTo_iff letB f n).2 ⟨j, hj, ?_⟩
      simpa [nnB, nod j hj] using hjn
  · rintro ⟨hn, (⟨hall, hany⟩ | ⟨⟨⟨⟨h3, h0⟩, hl⟩, hd⟩, hall⟩)⟩
    · have hA := (allTo_iff alnB f n).1 hall
      have nod : ∀ j, j < n → dashB (f j) = false := by
        intro j hj
        cases h : dashB (f j) with
        | false => rfl
        | true => have := dash_not_aln _ h; rw [hA j hj] at this; cases this
      refine ⟨⟨⟨⟨hn, nod 0 (by omega)⟩, nod (n - 1) (by omega)⟩, ?_⟩, ?_⟩
      · exact (allTo_iff adB f n).2 fun j hj => by simp [adB, hA j hj]
      · obtain ⟨j, hj, hjn⟩ := (anyTo_iff letB f n).1 hany
        exact (anyTo_iff nnB f n).2 ⟨j, hj, by simp [nnB, hjn]⟩
    · have nod : ∀ x, alnB x = true → dashB x = false := by
        intro x hx
        cases h : dashB x with
        | false => rfl
        | true => have := dash_not_aln _ h; rw [hx] at this; cases this
      refine ⟨⟨⟨⟨hn, nod _ h0⟩, nod _ hl⟩, hall⟩, ?_⟩
      obtain ⟨j, hj, hjn⟩ := (anyTo_iff dashB f n).1 hd
      exact (anyTo_iff nnB f n).2 ⟨j, hj, by simp [nnB, hjn]⟩

end Go.Proofs.Qxb6602967a.Plain
