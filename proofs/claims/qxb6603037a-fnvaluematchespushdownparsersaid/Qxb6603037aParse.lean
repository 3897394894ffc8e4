import Derived.Test.Qxb6603037aNum
import Derived.Test.Qxb6603037aValPlain
set_option linter.unusedVariables false
namespace Go.Proofs.Qxb6603037a.Walk
open Go.RowKit
open Go.Proofs.Qxb6603037a.Str (V V_le)
open Go.Proofs.Qxb6603037a.Num (num)
open Go.Proofs.Qxb6603037a.Val

theorem ws_any (c : Int) (w : World) : Calls Try.prog 27 #[.int .u8 c] w fun e w' => e = .returned (.bool (wsB c)) ∧ w' = w := by
  go_enter Try.func27, Try.ntmps27
  go_wp2
  all_goals
    go_ret
    refine ⟨ret_bool ?_, rfl⟩
    go_light
    rw [Bool.eq_iff_iff]
    simp [wsB]
    try omega

theorem end_follow (c : Int) : endB c = (wsB c || decide (c = 44) || decide (c = 93) || decide (c = 125)) := by
  rw [Bool.eq_iff_iff]
  simp only [endB, wsB, decide_eq_true_eq, Bool.or_eq_true]
  omega

theorem follow_any (c : Int) (w : World) : Calls Try.prog 17 #[.int .u8 c] w fun e w' => e = .returned (.bool (endB c)) ∧ w' = w := by
  go_enter Try.func17, Try.ntmps17
  go_wp2_with (go_at_call 27; refine (ws_any _ _).mono ?_; rintro e w' ⟨rfl, rfl⟩)
  all_goals
    go_ret
    refine ⟨ret_bool ?_, rfl⟩
    go_light
    rw [end_follow, Bool.eq_iff_iff]
    simp [*]

def closer (c : Int) : Int := if c = 123 then 125 else 93
theorem closer_cl (c x : Int) (h : x = closer c) : clB x = true := by
  subst h
  unfold closer
  split <;> decide
theorem ret_u8 {a b : Int} (h : a = b) : Ending.returned (.int .u8 a) = .returned (.int .u8 b) := by rw [h]

theorem closer_any (c : Int) (w : World) : Calls Try.prog 28 #[.int .u8 c] w fun e w' => e = .returned (.int .u8 (closer c)) ∧ w' = w := by
  by_cases h : c = 123
  · have g : (c == 123) = true := beq_iff_eq.2 h
    have R : Hid (closer c = 125) := by show closer c = 125; unfold closer; rw [if_pos h]
    clear h
    go_enter Try.func28, Try.ntmps28
    go_wp2
    go_ret
    exact ⟨ret_u8 R.out.symm, rfl⟩
  · have g : (c == 123) = false := beq_eq_false_iff_ne.2 h
    have R : Hid (closer c = 93) := by show closer c = 93; unfold closer; rw [if_neg h]
    clear h
    go_enter Try.func28, Try.ntmps28
    go_wp2
    go_ret
    exact ⟨ret_u8 R.out.symm, rfl⟩

set_option maxHeartbeats 400000 in
theorem skipws_any (d n c : Nat) (f : Nat → Int) (x : Int) (a : Nat) (hx : x = (a : Int)) (w : World) (hn : n ≤ 1048576) (ha : a ≤ n) (hc : ∀ j, j < n → w.cell? ⟨d, j, none⟩ = some (.int .u8 (f j))) :
    Calls Try.prog 15 #[.slice (some ⟨d, 0, none⟩) n c, .int .i64 x] w fun e w' => e = .returned (.int .i64 (W f n a : Nat)) ∧ w' = w := by
  subst hx
  obtain ⟨en, hF⟩ : ∃ en, W f n a = en := ⟨_, rfl⟩
  rw [hF]
  have HF : Hid (R wsB f n a = en) := hF
  have HC : Hid _ := hc
  clear hF hc
  go_enter Try.func15, Try.ntmps15
  go_wp2
  go_loop [1] (fun i => ∃ k : Nat, k ≤ n ∧ i = .int .i64 k ∧ Hid (R wsB f n k = en)) (fun i => n - (intOf i).toNat)
  case atStart => exact ⟨a, ha, rfl, HF⟩
  case round =>
    obtain ⟨k, hk, rfl, HR⟩ := hrel
    by_cases hlt : k < n
    · have hck := HC.out k hlt
      go_wp2_with (go_at_call 27; refine (ws_any _ _).mono ?_; rintro e w' ⟨rfl, rfl⟩)
      · have h : wsB (f k) = true := by assumption
        have R' : Hid (R wsB f n (k + 1) = en) := (R_yes wsB f n k hlt h).symm.trans HR.out
        go_round
        case rel => exact ⟨k + 1, by omega, by go_num, R'⟩
        case measure => simp [intOf]; omega
      · have h : wsB (f k) = false := by assumption
        have R' : k = en := (R_no wsB f n k (by simp [h])).symm.trans HR.out
        go_ret
        exact ⟨ret_int (by rw [R']), rfl⟩
    · have R' : Hid (k = en) := (R_no wsB f n k (by omega)).symm.trans HR.out
      go_wp2
      go_ret
      exact ⟨ret_int (by rw [R'.out]), rfl⟩

end Go.Proofs.Qxb6603037a.Walk
