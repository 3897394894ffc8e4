import Derived.Test.Qxb6603930aDigit
set_option linter.unusedVariables false
namespace Go.Proofs.Qxb6603930a.Digit
open Go.RowKit

theorem low_at : ∀ k (h : k < 16), wrap32 (((⟨#[48, 49, 50, 51, 52, 53, 54, 55, 56, 57, 97, 98, 99, 100, 101, 102]⟩ : ByteArray)[k]'h).toNat : Int) = tl k := by decide +kernel
theorem up_at : ∀ k (h : k < 16), wrap32 (((⟨#[48, 49, 50, 51, 52, 53, 54, 55, 56, 57, 65, 66, 67, 68, 69, 70]⟩ : ByteArray)[k]'h).toNat : Int) = tu k := by decide +kernel

set_option maxHeartbeats 1000000 in
theorem table_any (c : Int) (w : World) : Calls Try.prog 7 #[.int .i32 c] w fun e w' => e = .returned (.int .i64 (dv c)) ∧ w' = w := by
  go_enter Try.func7, Try.ntmps7
  go_wp2
  go_loop [3] (fun i => ∃ k : Nat, k ≤ 16 ∧ i = .int .i64 k ∧ Hid (¬ (0 ≤ dv c ∧ dv c < (k : Int)))) (fun i => 16 - (intOf i).toNat)
  case atStart => exact ⟨0, Nat.zero_le _, rfl, fun h => by omega⟩
  case round =>
    obtain ⟨k, hk, rfl, HD⟩ := hrel
    by_cases hlt : k < 16
    · have hl := low_at k hlt
      have hu := up_at k hlt
      by_cases e1 : tl k = c
      · have R : Hid ((k : Int) = dv c) := dv_hit c k hlt (Or.inl e1)
        have g1 : (wrap32 (((⟨#[48, 49, 50, 51, 52, 53, 54, 55, 56, 57, 97, 98, 99, 100, 101, 102]⟩ : ByteArray)[k]'hlt).toNat : Int) == c) = true := by rw [hl, e1]; simp
        clear hl hu e1
        go_wp2
        go_ret
        exact ⟨ret_i64 R.out, rfl⟩
      · have g1 : (wrap32 (((⟨#[48, 49, 50, 51, 52, 53, 54, 55, 56, 57, 97, 98, 99, 100, 101, 102]⟩ : ByteArray)[k]'hlt).toNat : Int) == c) = false := by rw [hl]; simp [e1]
        by_cases e2 : tu k = c
        · have R : Hid ((k : Int) = dv c) := dv_hit c k hlt (Or.inr e2)
          have g2 : (wrap32 (((⟨#[48, 49, 50, 51, 52, 53, 54, 55, 56, 57, 65, 66, 67, 68, 69, 70]⟩ : ByteArray)[k]'hlt).toNat : Int) == c) = true := by rw [hu, e2]; simp
          clear hl hu e1 e2
          go_wp2
          go_ret
          exact ⟨ret_i64 R.out, rfl⟩
        · have R : dv c ≠ k := dv_miss c k hlt e1 e2
          have HD' : Hid (¬ (0 ≤ dv c ∧ dv c < ((k + 1 : Nat) : Int))) := fun h => HD.out ⟨h.1, by omega⟩
          have g2 : (wrap32 (((⟨#[48, 49, 50, 51, 52, 53, 54, 55, 56, 57, 65, 66, 67, 68, 69, 70]⟩ : ByteArray)[k]'hlt).toNat : Int) == c) = false := by rw [hu]; simp [e2]
          clear hl hu e1 e2 R
          go_wp2
          go_round
          case rel => exact ⟨k + 1, by omega, by go_num, HD'⟩
          case measure => simp [intOf]; omega
    · have R : dv c = -1 := dv_out c (fun h => HD.out ⟨h.1, by omega⟩)
      have HR : Hid (dv c = -1) := R
      clear R
      go_wp2
      go_ret
      exact ⟨ret_i64 HR.out.symm, rfl⟩

theorem enc_low (v : Int) (w : World) (b : Bool) (h0 : 0 ≤ v) (h1 : v < 10) : Calls Try.prog 8 #[.int .i64 v, .bool b] w fun e w' => e = .returned (.int .i32 (48 + v)) ∧ w' = w := by
  go_enter Try.func8, Try.ntmps8
  go_wp2
  go_ret
  exact ⟨rfl, rfl⟩
theorem enc_up (v : Int) (w : World) (h0 : 10 ≤ v) (h1 : v ≤ 15) : Calls Try.prog 8 #[.int .i64 v, .bool true] w fun e w' => e = .returned (.int .i32 (65 + v - 10)) ∧ w' = w := by
  go_enter Try.func8, Try.ntmps8
  go_wp2
  go_ret
  exact ⟨rfl, rfl⟩
theorem enc_lo (v : Int) (w : World) (h0 : 10 ≤ v) (h1 : v ≤ 15) : Calls Try.prog 8 #[.int .i64 v, .bool false] w fun e w' => e = .returned (.int .i32 (97 + v - 10)) ∧ w' = w := by
  go_enter Try.func8, Try.ntmps8
  go_wp2
  go_ret
  exact ⟨rfl, rfl⟩

theorem inv_of (v c : Int) (w : World) (b : Bool) (h0 : 0 ≤ v) (h1 : v ≤ 15) (c1 : 48 ≤ c) (c2 : c ≤ 102) (hv : dv c = v) (henc : ∀ w, Calls Try.prog 8 #[.int .i64 v, .bool b] w fun e w' => e = .returned (.int .i32 c) ∧ w' = w) :
    Calls Try.prog 4 #[.int .i64 v, .bool b] w fun e w' => e = .returned (.bool true) ∧ w' = w := by
  have g : (dv c == v) = true := beq_iff_eq.2 hv
  have HE : Hid _ := henc
  clear henc hv
  go_enter Try.func4, Try.ntmps4
  go_wp2_with (first | (go_at_call 8; refine (HE.out _).mono ?_; rintro e w' ⟨rfl, rfl⟩) | (go_at_call 6; refine (zz_any _ _ (by omega) (by omega)).mono ?_; rintro e w' ⟨rfl, rfl⟩))
  go_ret
  exact ⟨rfl, rfl⟩

end Go.Proofs.Qxb6603930a.Digit
