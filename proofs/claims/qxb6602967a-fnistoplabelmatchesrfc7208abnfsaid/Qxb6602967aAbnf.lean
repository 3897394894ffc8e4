import Derived.Test.Qxb6602967aTop
import Derived.Deep.Light
namespace Go.Proofs.Qxb6602967a.Top
open Go.RowKit
open Go.Proofs.Qxb6602967a.Plain

theorem dash_beq (c : Int) : dashB c = (c == 45) := by
  rw [Bool.eq_iff_iff]; simp [dashB]
theorem abnf_zero (f : Nat → Int) (n : Nat) (h : n = 0) : false = abnfB f n := by subst h; rfl

/-- What 'topLabelABNF' computes. -/
theorem abnf_any (s : ByteArray) (w : World) (hs : s.size ≤ 1048576) : Calls Try.prog 12 #[.string s] w fun e w' => e = .returned (.bool (abnfB (byt s) s.size)) ∧ w' = w := by
  by_cases h0 : s.size = 0
  · go_enter Try.func12, Try.ntmps12
    go_wp2
    go_ret
    exact ⟨ret_bool (abnf_zero _ _ h0), rfl⟩
  · have hz : (((s.size : Nat) : Int) == 0) = false := beq_eq_false_iff_ne.2 (by omega)
    have hp : 0 < s.size := by omega
    clear h0
    go_enter Try.func12, Try.ntmps12
    go_wp2
    go_loop [4, 5, 6, 7, 8] (fun a h d z i => ∃ k : Nat, k ≤ s.size ∧ i = .int .i64 k ∧ a = .bool (allTo alnB (byt s) k) ∧ h = .bool (anyTo letB (byt s) k) ∧ d = .bool (allTo adB (byt s) k) ∧ z = .bool (anyTo dashB (byt s) k)) (fun _ _ _ _ i => s.size - (intOf i).toNat)
    case atStart => exact ⟨0, Nat.zero_le _, rfl, rfl, rfl, rfl, rfl⟩
    case round =>
      obtain ⟨k, hk, rfl, rfl, rfl, rfl, rfl⟩ := hrel
      by_cases hlt : k < s.size
      · have HB : Hid (byt s k = ((s[k]'hlt).toNat : Int)) := byt_at s k hlt
        go_wp2_with (first
          | (go_at_call 29; refine (alnum_any _ _).mono ?_; rintro e w' ⟨rfl, rfl⟩)
          | (go_at_call 30; refine (alpha_any _ _).mono ?_; rintro e w' ⟨rfl, rfl⟩))
        all_goals
          go_round
          case rel =>
            go_light
            simp only [Bool.not_eq_true', Bool.not_eq_false'] at *
            refine ⟨k + 1, by omega, by go_num, val_bool ?_, val_bool ?_, val_bool ?_, val_bool ?_⟩
            all_goals (first | rw [all_step, HB.out] | rw [any_step, HB.out])
            all_goals simp [adB, dash_beq, *]
          case measure => simp [intOf]; omega
      · have e : k = s.size := by omega
        subst e
        have HB : Hid (byt s 0 = ((s[0]'hp).toNat : Int)) := byt_at s 0 hp
        have HL : Hid (byt s (s.size - 1) = ((s[s.size - 1]'(by omega)).toNat : Int)) := byt_at s (s.size - 1) (by omega)
        go_wp2_with (first
          | (go_at_call 29; refine (alnum_any _ _).mono ?_; rintro e w' ⟨rfl, rfl⟩))
        all_goals
          go_ret
          refine ⟨ret_bool ?_, rfl⟩
          go_light
          have hne : ¬ s.size = 0 := by omega
          try simp only [Bool.not_eq_true] at *
          first
            | (simp [abnfB, *]; done)
            | (have h3 : 3 ≤ s.size := by omega
               simp [abnfB, HB.out, HL.out, *])
            | (have h3 : ¬ 3 ≤ s.size := by omega
               simp [abnfB, *])

end Go.Proofs.Qxb6602967a.Top
