import Derived.Test.Qxb6603930aProg
import Derived.WalkKit
import Derived.WalkSpells
import Derived.WalkLawsBesides
import Derived.Deep.Light
set_option linter.unusedVariables false
namespace Go.Proofs.Qxb6603930a.Digit
open Go.RowKit

theorem ret_bool {a b : Bool} (h : a = b) : Ending.returned (.bool a) = .returned (.bool b) := by rw [h]
theorem ret_i64 {a b : Int} (h : a = b) : Ending.returned (.int .i64 a) = .returned (.int .i64 b) := by rw [h]
theorem ret_i32 {a b : Int} (h : a = b) : Ending.returned (.int .i32 a) = .returned (.int .i32 b) := by rw [h]

theorem small_or : ∀ r, r < 64 → r ||| 32 = if r < 32 then r + 32 else r := by decide
theorem or32 (a : Nat) : a ||| 32 = if a % 64 < 32 then a + 32 else a := by
  have h1 : (a ||| 32) % 64 = (a % 64) ||| 32 := by
    have := Nat.or_mod_two_pow (a := a) (b := 32) (n := 6)
    simpa using this
  have h2 : (a ||| 32) / 64 = a / 64 := by
    have := Nat.or_div_two_pow (a := a) (b := 32) (n := 6)
    simpa using this
  rw [small_or _ (Nat.mod_lt _ (by omega))] at h1
  split at h1 <;> split <;> omega

def lo (c : Int) : Int := if c % 64 < 32 then c + 32 else c

theorem lo_eq (c : Int) (h1 : -2147483648 ≤ c) (h2 : c ≤ 2147483647) : bits .or .i32 c 32 = lo c := by
  have e : bits .or .i32 c 32 = IntKind.wrap .i32 ((BitVec.ofInt 32 c ||| BitVec.ofInt 32 32).toNat : Int) := rfl
  rw [e, BitVec.toNat_or, BitVec.toNat_ofInt, BitVec.toNat_ofInt]
  have e2 : ((32 : Int) % ((2 ^ 32 : Nat) : Int)).toNat = 32 := by decide
  rw [e2, or32, IntKind.wrap_i32]
  unfold lo
  have e3 : (c % ((2 ^ 32 : Nat) : Int)) = c % 4294967296 := rfl
  rw [e3]
  split <;> split <;> omega

def decB (c : Int) : Bool := decide (48 ≤ c ∧ c ≤ 57)
/-- the value of a hexadecimal digit, or -1 -/
def dv (c : Int) : Int := if 48 ≤ c ∧ c ≤ 57 then c - 48 else if 97 ≤ c ∧ c ≤ 102 then c - 87 else if 65 ≤ c ∧ c ≤ 70 then c - 55 else -1

theorem dec_any (c : Int) (w : World) : Calls Try.prog 13 #[.int .i32 c] w fun e w' => e = .returned (.bool (decB c)) ∧ w' = w := by
  go_enter Try.func13, Try.ntmps13
  go_wp2
  all_goals
    go_ret
    exact ⟨ret_bool (by rw [Bool.eq_iff_iff]; simp [decB]; omega), rfl⟩

theorem lower_any (c : Int) (w : World) (h1 : -2147483648 ≤ c) (h2 : c ≤ 2147483647) : Calls Try.prog 14 #[.int .i32 c] w fun e w' => e = .returned (.int .i32 (lo c)) ∧ w' = w := by
  have H : Hid (bits .or .i32 c 32 = lo c) := lo_eq c h1 h2
  go_enter Try.func14, Try.ntmps14
  go_wp2
  go_ret
  exact ⟨ret_i32 H.out, rfl⟩

set_option maxHeartbeats 400000 in
theorem digit_any (c : Int) (w : World) (h1 : -2147483648 ≤ c) (h2 : c ≤ 2147483647) : Calls Try.prog 12 #[.int .i32 c] w fun e w' => e = .returned (.int .i64 (dv c)) ∧ w' = w := by
  by_cases hd : 48 ≤ c ∧ c ≤ 57
  · have hb : decB c = true := decide_eq_true hd
    have R : Hid (dv c = c - 48) := by show dv c = c - 48; unfold dv; rw [if_pos hd]
    obtain ⟨d1, d2⟩ := hd
    go_enter Try.func12, Try.ntmps12
    go_wp2_with (go_at_call 13; refine (dec_any _ _).mono ?_; rintro e w' ⟨rfl, rfl⟩)
    go_ret
    exact ⟨ret_i64 (by rw [R.out]), rfl⟩
  · have hb : decB c = false := decide_eq_false hd
    have HL : Hid (lo c = if c % 64 < 32 then c + 32 else c) := rfl
    by_cases hl : 97 ≤ lo c ∧ lo c ≤ 102
    · have R : Hid (dv c = lo c - 97 + 10) := by
        show dv c = lo c - 97 + 10
        have := HL.out
        unfold dv
        rw [if_neg hd]
        split at this <;> (split <;> first | omega | (split <;> omega))
      obtain ⟨l1, l2⟩ := hl
      clear hd
      go_enter Try.func12, Try.ntmps12
      go_wp2_with (first | (go_at_call 13; refine (dec_any _ _).mono ?_; rintro e w' ⟨rfl, rfl⟩) | (go_at_call 14; refine (lower_any _ _ h1 h2).mono ?_; rintro e w' ⟨rfl, rfl⟩))
      go_ret
      exact ⟨ret_i64 (by rw [R.out]), rfl⟩
    · have R : Hid (dv c = -1) := by
        show dv c = -1
        have := HL.out
        unfold dv
        rw [if_neg hd]
        split at this <;> (split <;> first | omega | (split <;> omega))
      clear hd
      by_cases l1 : 97 ≤ lo c
      · have l2 : ¬ lo c ≤ 102 := fun h => hl ⟨l1, h⟩
        clear hl
        go_enter Try.func12, Try.ntmps12
        go_wp2_with (first | (go_at_call 13; refine (dec_any _ _).mono ?_; rintro e w' ⟨rfl, rfl⟩) | (go_at_call 14; refine (lower_any _ _ h1 h2).mono ?_; rintro e w' ⟨rfl, rfl⟩))
        go_ret
        exact ⟨ret_i64 R.out.symm, rfl⟩
      · clear hl
        go_enter Try.func12, Try.ntmps12
        go_wp2_with (first | (go_at_call 13; refine (dec_any _ _).mono ?_; rintro e w' ⟨rfl, rfl⟩) | (go_at_call 14; refine (lower_any _ _ h1 h2).mono ?_; rintro e w' ⟨rfl, rfl⟩))
        go_ret
        exact ⟨ret_i64 R.out.symm, rfl⟩

theorem zz_any (c : Int) (w : World) (h1 : -2147483648 ≤ c) (h2 : c ≤ 2147483647) : Calls Try.prog 6 #[.int .i32 c] w fun e w' => e = .returned (.int .i64 (dv c)) ∧ w' = w := by
  go_enter Try.func6, Try.ntmps6
  go_wp2_with (go_at_call 12; refine (digit_any _ _ h1 h2).mono ?_; rintro e w' ⟨rfl, rfl⟩)
  go_ret
  exact ⟨rfl, rfl⟩

/-- the two tables -/
def tl (k : Nat) : Int := if k < 10 then 48 + k else 87 + k
def tu (k : Nat) : Int := if k < 10 then 48 + k else 55 + k
theorem dv_hit (c : Int) (k : Nat) (hk : k < 16) (h : tl k = c ∨ tu k = c) : (k : Int) = dv c := by
  unfold dv tl tu at *
  split at h <;> (split <;> first | omega | (split <;> first | omega | (split <;> omega)))
theorem dv_miss (c : Int) (k : Nat) (hk : k < 16) (h1 : tl k ≠ c) (h2 : tu k ≠ c) : dv c ≠ k := by
  intro e
  unfold dv tl tu at *
  split at h1 <;> split at e <;> first | omega | (split at e <;> first | omega | (split at e <;> omega))
theorem dv_out (c : Int) (h : ¬ (0 ≤ dv c ∧ dv c < 16)) : dv c = -1 := by
  unfold dv at *
  split at h
  · omega
  · split at h
    · omega
    · split at h
      · omega
      · rename_i a b d
        rw [if_neg a, if_neg b, if_neg d]


end Go.Proofs.Qxb6603930a.Digit
