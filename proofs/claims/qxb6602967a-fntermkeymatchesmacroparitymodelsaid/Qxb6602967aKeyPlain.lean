/- Plain functions for the law on term keys: bytes given as 'f : Nat → Int'; no Go in sight. -/
namespace Go.Proofs.Qxb6602967a.Key

/-- How many pairs 37, 123 end just before p. -/
def runs (f : Nat → Int) : Nat → Nat
  | 0 => 0
  | 1 => 0
  | p + 2 => if f p = 37 ∧ f (p + 1) = 123 then runs f p + 1 else 0

def low (c : Int) : Int := if 65 ≤ c ∧ c ≤ 90 then c + 32 else c

/-- The byte of the key at p. -/
def outI (f : Nat → Int) (p : Nat) : Int := if runs f p % 2 = 0 then low (f p) else f p

def outB (f : Nat → Int) : Nat → List UInt8
  | 0 => []
  | n + 1 => outB f n ++ [(outI f n).toNat.toUInt8]

theorem outB_length (f : Nat → Int) (n : Nat) : (outB f n).length = n := by
  induction n with
  | zero => rfl
  | succ k ih => simp [outB, ih]

theorem runs_le (f : Nat → Int) (p : Nat) : runs f p ≤ p ∧ runs f (p + 1) ≤ p + 1 := by
  induction p with
  | zero => simp [runs]
  | succ k ih =>
    refine ⟨ih.2, ?_⟩
    simp only [runs]
    split
    · omega
    · omega

def Inv (f : Nat → Int) (n i : Nat) : Prop := (i < n → runs f i % 2 = 0) ∧ (i + 1 < n → runs f (i + 1) % 2 = 0)

theorem inv_zero (f : Nat → Int) (n : Nat) : Inv f n 0 := ⟨fun _ => rfl, fun _ => rfl⟩

theorem chunk_inv (f : Nat → Int) (n i : Nat) (h : Inv f n i) (hn : i + 2 < n) (h0 : f i = 37) (h1 : f (i + 1) = 123) : Inv f n (i + 3) := by
  have e0 := h.1 (by omega)
  have e2 : runs f (i + 2) = runs f i + 1 := by simp [runs, h0, h1]
  have e3 : runs f (i + 3) = 0 := by
    show runs f (i + 1 + 2) = 0
    simp [runs, h1]
  refine ⟨fun _ => by omega, fun _ => ?_⟩
  show runs f (i + 2 + 2) % 2 = 0
  simp only [runs]
  split
  · have e2' : runs f (i + 2) = runs f i + 1 := e2
    simp only [runs] at e2'
    omega
  · rfl

theorem chunk_out (f : Nat → Int) (n i : Nat) (h : Inv f n i) (hn : i + 2 < n) (h0 : f i = 37) (h1 : f (i + 1) = 123) :
    outI f i = f i ∧ outI f (i + 1) = f (i + 1) ∧ outI f (i + 2) = f (i + 2) := by
  have e0 := h.1 (by omega)
  have e2 : runs f (i + 2) = runs f i + 1 := by simp [runs, h0, h1]
  refine ⟨?_, ?_, ?_⟩
  · simp [outI, low, h0]
  · simp [outI, low, h1]
  · unfold outI
    rw [if_neg (by omega)]

theorem one_inv (f : Nat → Int) (n i : Nat) (h : Inv f n i) (hno : ¬ (f i = 37 ∧ i + 2 < n ∧ f (i + 1) = 123)) : Inv f n (i + 1) := by
  refine ⟨h.2, fun hn => ?_⟩
  show runs f (i + 2) % 2 = 0
  simp only [runs]
  rw [if_neg (fun k => hno ⟨k.1, by omega, k.2⟩)]

theorem one_out (f : Nat → Int) (n i : Nat) (h : Inv f n i) (hi : i < n) : outI f i = low (f i) := by
  unfold outI
  rw [if_pos (h.1 hi)]

theorem outB_three (f : Nat → Int) (i : Nat) (h0 : outI f i = f i) (h1 : outI f (i + 1) = f (i + 1)) (h2 : outI f (i + 2) = f (i + 2)) :
    outB f (i + 3) = outB f i ++ [(f i).toNat.toUInt8, (f (i + 1)).toNat.toUInt8, (f (i + 2)).toNat.toUInt8] := by
  show ((outB f i ++ [_]) ++ [_]) ++ [_] = _
  rw [h0, h1, h2]
  simp

theorem low_bd (c : Int) (h0 : 0 ≤ c) (h1 : c < 256) : 0 ≤ low c ∧ low c < 256 := by
  unfold low
  split <;> omega

theorem outI_bd (f : Nat → Int) (p : Nat) (h0 : 0 ≤ f p) (h1 : f p < 256) : 0 ≤ outI f p ∧ outI f p < 256 := by
  have := low_bd (f p) h0 h1
  unfold outI
  split <;> omega

end Go.Proofs.Qxb6602967a.Key
