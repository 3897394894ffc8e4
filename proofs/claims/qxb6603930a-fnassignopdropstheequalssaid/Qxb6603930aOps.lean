import Derived.Test.Qxb6603930aProg
import Derived.WalkKit
import Derived.WalkSpells
import Derived.WalkLawsBesides
import Derived.Deep.QuietTactic
import Derived.BigQuiet
import Derived.Deep.Light
set_option linter.unusedVariables false
namespace Go.Proofs.Qxb6603930a.Ops
open Go.RowKit

theorem ret_bool {a b : Bool} (h : a = b) : Ending.returned (.bool a) = .returned (.bool b) := by rw [h]

theorem sp11 (w : World) : Calls Try.prog 10 #[.int .i64 11] w fun e w' => e = .returned (.string ⟨#[43]⟩) ∧ w' = w := by
  go_enter Try.func10, Try.ntmps10
  go_wp2
  go_ret
  exact ⟨rfl, rfl⟩
theorem sp12 (w : World) : Calls Try.prog 10 #[.int .i64 12] w fun e w' => e = .returned (.string ⟨#[45]⟩) ∧ w' = w := by
  go_enter Try.func10, Try.ntmps10
  go_wp2
  go_ret
  exact ⟨rfl, rfl⟩
theorem sp13 (w : World) : Calls Try.prog 10 #[.int .i64 13] w fun e w' => e = .returned (.string ⟨#[42]⟩) ∧ w' = w := by
  go_enter Try.func10, Try.ntmps10
  go_wp2
  go_ret
  exact ⟨rfl, rfl⟩
theorem sp14 (w : World) : Calls Try.prog 10 #[.int .i64 14] w fun e w' => e = .returned (.string ⟨#[47]⟩) ∧ w' = w := by
  go_enter Try.func10, Try.ntmps10
  go_wp2
  go_ret
  exact ⟨rfl, rfl⟩
theorem sp15 (w : World) : Calls Try.prog 10 #[.int .i64 15] w fun e w' => e = .returned (.string ⟨#[37]⟩) ∧ w' = w := by
  go_enter Try.func10, Try.ntmps10
  go_wp2
  go_ret
  exact ⟨rfl, rfl⟩
theorem sp16 (w : World) : Calls Try.prog 10 #[.int .i64 16] w fun e w' => e = .returned (.string ⟨#[38]⟩) ∧ w' = w := by
  go_enter Try.func10, Try.ntmps10
  go_wp2
  go_ret
  exact ⟨rfl, rfl⟩
theorem sp17 (w : World) : Calls Try.prog 10 #[.int .i64 17] w fun e w' => e = .returned (.string ⟨#[124]⟩) ∧ w' = w := by
  go_enter Try.func10, Try.ntmps10
  go_wp2
  go_ret
  exact ⟨rfl, rfl⟩
theorem sp18 (w : World) : Calls Try.prog 10 #[.int .i64 18] w fun e w' => e = .returned (.string ⟨#[94]⟩) ∧ w' = w := by
  go_enter Try.func10, Try.ntmps10
  go_wp2
  go_ret
  exact ⟨rfl, rfl⟩
theorem sp19 (w : World) : Calls Try.prog 10 #[.int .i64 19] w fun e w' => e = .returned (.string ⟨#[60, 60]⟩) ∧ w' = w := by
  go_enter Try.func10, Try.ntmps10
  go_wp2
  go_ret
  exact ⟨rfl, rfl⟩
theorem sp20 (w : World) : Calls Try.prog 10 #[.int .i64 20] w fun e w' => e = .returned (.string ⟨#[62, 62]⟩) ∧ w' = w := by
  go_enter Try.func10, Try.ntmps10
  go_wp2
  go_ret
  exact ⟨rfl, rfl⟩
theorem sp21 (w : World) : Calls Try.prog 10 #[.int .i64 21] w fun e w' => e = .returned (.string ⟨#[38, 94]⟩) ∧ w' = w := by
  go_enter Try.func10, Try.ntmps10
  go_wp2
  go_ret
  exact ⟨rfl, rfl⟩
theorem sp22 (w : World) : Calls Try.prog 10 #[.int .i64 22] w fun e w' => e = .returned (.string ⟨#[43, 61]⟩) ∧ w' = w := by
  go_enter Try.func10, Try.ntmps10
  go_wp2
  go_ret
  exact ⟨rfl, rfl⟩
theorem sp23 (w : World) : Calls Try.prog 10 #[.int .i64 23] w fun e w' => e = .returned (.string ⟨#[45, 61]⟩) ∧ w' = w := by
  go_enter Try.func10, Try.ntmps10
  go_wp2
  go_ret
  exact ⟨rfl, rfl⟩
theorem sp24 (w : World) : Calls Try.prog 10 #[.int .i64 24] w fun e w' => e = .returned (.string ⟨#[42, 61]⟩) ∧ w' = w := by
  go_enter Try.func10, Try.ntmps10
  go_wp2
  go_ret
  exact ⟨rfl, rfl⟩
theorem sp25 (w : World) : Calls Try.prog 10 #[.int .i64 25] w fun e w' => e = .returned (.string ⟨#[47, 61]⟩) ∧ w' = w := by
  go_enter Try.func10, Try.ntmps10
  go_wp2
  go_ret
  exact ⟨rfl, rfl⟩
theorem sp26 (w : World) : Calls Try.prog 10 #[.int .i64 26] w fun e w' => e = .returned (.string ⟨#[37, 61]⟩) ∧ w' = w := by
  go_enter Try.func10, Try.ntmps10
  go_wp2
  go_ret
  exact ⟨rfl, rfl⟩
theorem sp27 (w : World) : Calls Try.prog 10 #[.int .i64 27] w fun e w' => e = .returned (.string ⟨#[38, 61]⟩) ∧ w' = w := by
  go_enter Try.func10, Try.ntmps10
  go_wp2
  go_ret
  exact ⟨rfl, rfl⟩
theorem sp28 (w : World) : Calls Try.prog 10 #[.int .i64 28] w fun e w' => e = .returned (.string ⟨#[124, 61]⟩) ∧ w' = w := by
  go_enter Try.func10, Try.ntmps10
  go_wp2
  go_ret
  exact ⟨rfl, rfl⟩
theorem sp29 (w : World) : Calls Try.prog 10 #[.int .i64 29] w fun e w' => e = .returned (.string ⟨#[94, 61]⟩) ∧ w' = w := by
  go_enter Try.func10, Try.ntmps10
  go_wp2
  go_ret
  exact ⟨rfl, rfl⟩
theorem sp30 (w : World) : Calls Try.prog 10 #[.int .i64 30] w fun e w' => e = .returned (.string ⟨#[60, 60, 61]⟩) ∧ w' = w := by
  go_enter Try.func10, Try.ntmps10
  go_wp2
  go_ret
  exact ⟨rfl, rfl⟩
theorem sp31 (w : World) : Calls Try.prog 10 #[.int .i64 31] w fun e w' => e = .returned (.string ⟨#[62, 62, 61]⟩) ∧ w' = w := by
  go_enter Try.func10, Try.ntmps10
  go_wp2
  go_ret
  exact ⟨rfl, rfl⟩
theorem sp32 (w : World) : Calls Try.prog 10 #[.int .i64 32] w fun e w' => e = .returned (.string ⟨#[38, 94, 61]⟩) ∧ w' = w := by
  go_enter Try.func10, Try.ntmps10
  go_wp2
  go_ret
  exact ⟨rfl, rfl⟩
theorem comp22 (w : World) : Calls Try.prog 11 #[.string ⟨#[43, 61]⟩] w fun e w' => e = .returned (.bool true) ∧ w' = w := by
  go_enter Try.func11, Try.ntmps11
  go_wp2
  go_ret
  exact ⟨rfl, rfl⟩
theorem comp23 (w : World) : Calls Try.prog 11 #[.string ⟨#[45, 61]⟩] w fun e w' => e = .returned (.bool true) ∧ w' = w := by
  go_enter Try.func11, Try.ntmps11
  go_wp2
  go_ret
  exact ⟨rfl, rfl⟩
theorem comp24 (w : World) : Calls Try.prog 11 #[.string ⟨#[42, 61]⟩] w fun e w' => e = .returned (.bool true) ∧ w' = w := by
  go_enter Try.func11, Try.ntmps11
  go_wp2
  go_ret
  exact ⟨rfl, rfl⟩
theorem comp25 (w : World) : Calls Try.prog 11 #[.string ⟨#[47, 61]⟩] w fun e w' => e = .returned (.bool true) ∧ w' = w := by
  go_enter Try.func11, Try.ntmps11
  go_wp2
  go_ret
  exact ⟨rfl, rfl⟩
theorem comp26 (w : World) : Calls Try.prog 11 #[.string ⟨#[37, 61]⟩] w fun e w' => e = .returned (.bool true) ∧ w' = w := by
  go_enter Try.func11, Try.ntmps11
  go_wp2
  go_ret
  exact ⟨rfl, rfl⟩
theorem comp27 (w : World) : Calls Try.prog 11 #[.string ⟨#[38, 61]⟩] w fun e w' => e = .returned (.bool true) ∧ w' = w := by
  go_enter Try.func11, Try.ntmps11
  go_wp2
  go_ret
  exact ⟨rfl, rfl⟩
theorem comp28 (w : World) : Calls Try.prog 11 #[.string ⟨#[124, 61]⟩] w fun e w' => e = .returned (.bool true) ∧ w' = w := by
  go_enter Try.func11, Try.ntmps11
  go_wp2
  go_ret
  exact ⟨rfl, rfl⟩
theorem comp29 (w : World) : Calls Try.prog 11 #[.string ⟨#[94, 61]⟩] w fun e w' => e = .returned (.bool true) ∧ w' = w := by
  go_enter Try.func11, Try.ntmps11
  go_wp2
  go_ret
  exact ⟨rfl, rfl⟩
theorem comp30 (w : World) : Calls Try.prog 11 #[.string ⟨#[60, 60, 61]⟩] w fun e w' => e = .returned (.bool true) ∧ w' = w := by
  go_enter Try.func11, Try.ntmps11
  go_wp2
  go_ret
  exact ⟨rfl, rfl⟩
theorem comp31 (w : World) : Calls Try.prog 11 #[.string ⟨#[62, 62, 61]⟩] w fun e w' => e = .returned (.bool true) ∧ w' = w := by
  go_enter Try.func11, Try.ntmps11
  go_wp2
  go_ret
  exact ⟨rfl, rfl⟩
theorem comp32 (w : World) : Calls Try.prog 11 #[.string ⟨#[38, 94, 61]⟩] w fun e w' => e = .returned (.bool true) ∧ w' = w := by
  go_enter Try.func11, Try.ntmps11
  go_wp2
  go_ret
  exact ⟨rfl, rfl⟩

/-- A string that is none of the eleven. -/
def NoComp (s : ByteArray) : Prop := (s.toList == [43, 61]) = false ∧ (s.toList == [45, 61]) = false ∧ (s.toList == [42, 61]) = false ∧ (s.toList == [47, 61]) = false ∧ (s.toList == [37, 61]) = false ∧ (s.toList == [38, 61]) = false ∧ (s.toList == [124, 61]) = false ∧ (s.toList == [94, 61]) = false ∧ (s.toList == [60, 60, 61]) = false ∧ (s.toList == [62, 62, 61]) = false ∧ (s.toList == [38, 94, 61]) = false

theorem comp_no (s : ByteArray) (w : World) (h : NoComp s) : Calls Try.prog 11 #[.string s] w fun e w' => e = .returned (.bool false) ∧ w' = w := by
  obtain ⟨h22, h23, h24, h25, h26, h27, h28, h29, h30, h31, h32⟩ := h
  go_enter Try.func11, Try.ntmps11
  go_wp2
  go_ret
  exact ⟨rfl, rfl⟩

set_option maxHeartbeats 4000000 in
set_option maxRecDepth 100000 in
/-- Any other token. -/
theorem sp_other (x : Int) (w : World) (h : x < 22 ∨ 32 < x) : Calls Try.prog 10 #[.int .i64 x] w fun e w' => ∃ s, e = .returned (.string s) ∧ NoComp s ∧ w' = w := by
  have n22 : (x == 22) = false := beq_eq_false_iff_ne.2 (by omega)
  have n23 : (x == 23) = false := beq_eq_false_iff_ne.2 (by omega)
  have n24 : (x == 24) = false := beq_eq_false_iff_ne.2 (by omega)
  have n25 : (x == 25) = false := beq_eq_false_iff_ne.2 (by omega)
  have n26 : (x == 26) = false := beq_eq_false_iff_ne.2 (by omega)
  have n27 : (x == 27) = false := beq_eq_false_iff_ne.2 (by omega)
  have n28 : (x == 28) = false := beq_eq_false_iff_ne.2 (by omega)
  have n29 : (x == 29) = false := beq_eq_false_iff_ne.2 (by omega)
  have n30 : (x == 30) = false := beq_eq_false_iff_ne.2 (by omega)
  have n31 : (x == 31) = false := beq_eq_false_iff_ne.2 (by omega)
  have n32 : (x == 32) = false := beq_eq_false_iff_ne.2 (by omega)
  clear h
  go_enter Try.func10, Try.ntmps10
  go_wp2
  all_goals
    go_ret
    exact ⟨_, rfl, by unfold NoComp; decide +kernel, rfl⟩

theorem assign_no (x : Int) (w : World) (h : x < 22 ∨ 32 < x) : Calls Try.prog 9 #[.int .i64 x] w fun e w' => e = .returned (.int .i64 0) ∧ w' = w := by
  rcases h with h | h
  all_goals
    go_enter Try.func9, Try.ntmps9
    go_wp2
    go_ret
    exact ⟨rfl, rfl⟩

theorem law_other (x : Int) (w : World) (h : x < 22 ∨ 32 < x) : Calls Try.prog 5 #[.int .i64 x] w fun e w' => e = .returned (.bool true) ∧ w' = w := by
  have H : Hid (x < 22 ∨ 32 < x) := h
  clear h
  go_enter Try.func5, Try.ntmps5
  go_wp2_with (first | (go_at_call 9; refine (assign_no _ _ H.out).mono ?_; rintro e w' ⟨rfl, rfl⟩) | (go_at_call 10; fail))
  refine (sp_other _ _ H.out).mono ?_
  rintro e w1 ⟨s, rfl, hs, rfl⟩
  have HS : Hid (NoComp s) := hs
  clear hs
  go_wp2_with (go_at_call 11; refine (comp_no _ _ HS.out).mono ?_; rintro e w' ⟨rfl, rfl⟩)
  go_ret
  exact ⟨rfl, rfl⟩

theorem law22 (w : World) : Calls Try.prog 5 #[.int .i64 22] w fun e w' => e = .returned (.bool true) ∧ ∃ q, w' = w.drewN q := by
  go_enter Try.func5, Try.ntmps5
  go_wp2_with (first | (go_at_call 10; refine (sp22 _).mono ?_; rintro e w' ⟨rfl, rfl⟩) | (go_at_call 11; refine (comp22 _).mono ?_; rintro e w' ⟨rfl, rfl⟩) | go_in)
  go_quiet ((go_at_call 10; exact Calls.quiet_of_same (sp11 _)))
  go_wp2
  go_ret
  exact ⟨ret_bool (by decide +kernel), _, rfl⟩

theorem law23 (w : World) : Calls Try.prog 5 #[.int .i64 23] w fun e w' => e = .returned (.bool true) ∧ ∃ q, w' = w.drewN q := by
  go_enter Try.func5, Try.ntmps5
  go_wp2_with (first | (go_at_call 10; refine (sp23 _).mono ?_; rintro e w' ⟨rfl, rfl⟩) | (go_at_call 11; refine (comp23 _).mono ?_; rintro e w' ⟨rfl, rfl⟩) | go_in)
  go_quiet ((go_at_call 10; exact Calls.quiet_of_same (sp12 _)))
  go_wp2
  go_ret
  exact ⟨ret_bool (by decide +kernel), _, rfl⟩

theorem law24 (w : World) : Calls Try.prog 5 #[.int .i64 24] w fun e w' => e = .returned (.bool true) ∧ ∃ q, w' = w.drewN q := by
  go_enter Try.func5, Try.ntmps5
  go_wp2_with (first | (go_at_call 10; refine (sp24 _).mono ?_; rintro e w' ⟨rfl, rfl⟩) | (go_at_call 11; refine (comp24 _).mono ?_; rintro e w' ⟨rfl, rfl⟩) | go_in)
  go_quiet ((go_at_call 10; exact Calls.quiet_of_same (sp13 _)))
  go_wp2
  go_ret
  exact ⟨ret_bool (by decide +kernel), _, rfl⟩

theorem law25 (w : World) : Calls Try.prog 5 #[.int .i64 25] w fun e w' => e = .returned (.bool true) ∧ ∃ q, w' = w.drewN q := by
  go_enter Try.func5, Try.ntmps5
  go_wp2_with (first | (go_at_call 10; refine (sp25 _).mono ?_; rintro e w' ⟨rfl, rfl⟩) | (go_at_call 11; refine (comp25 _).mono ?_; rintro e w' ⟨rfl, rfl⟩) | go_in)
  go_quiet ((go_at_call 10; exact Calls.quiet_of_same (sp14 _)))
  go_wp2
  go_ret
  exact ⟨ret_bool (by decide +kernel), _, rfl⟩

theorem law26 (w : World) : Calls Try.prog 5 #[.int .i64 26] w fun e w' => e = .returned (.bool true) ∧ ∃ q, w' = w.drewN q := by
  go_enter Try.func5, Try.ntmps5
  go_wp2_with (first | (go_at_call 10; refine (sp26 _).mono ?_; rintro e w' ⟨rfl, rfl⟩) | (go_at_call 11; refine (comp26 _).mono ?_; rintro e w' ⟨rfl, rfl⟩) | go_in)
  go_quiet ((go_at_call 10; exact Calls.quiet_of_same (sp15 _)))
  go_wp2
  go_ret
  exact ⟨ret_bool (by decide +kernel), _, rfl⟩

theorem law27 (w : World) : Calls Try.prog 5 #[.int .i64 27] w fun e w' => e = .returned (.bool true) ∧ ∃ q, w' = w.drewN q := by
  go_enter Try.func5, Try.ntmps5
  go_wp2_with (first | (go_at_call 10; refine (sp27 _).mono ?_; rintro e w' ⟨rfl, rfl⟩) | (go_at_call 11; refine (comp27 _).mono ?_; rintro e w' ⟨rfl, rfl⟩) | go_in)
  go_quiet ((go_at_call 10; exact Calls.quiet_of_same (sp16 _)))
  go_wp2
  go_ret
  exact ⟨ret_bool (by decide +kernel), _, rfl⟩

theorem law28 (w : World) : Calls Try.prog 5 #[.int .i64 28] w fun e w' => e = .returned (.bool true) ∧ ∃ q, w' = w.drewN q := by
  go_enter Try.func5, Try.ntmps5
  go_wp2_with (first | (go_at_call 10; refine (sp28 _).mono ?_; rintro e w' ⟨rfl, rfl⟩) | (go_at_call 11; refine (comp28 _).mono ?_; rintro e w' ⟨rfl, rfl⟩) | go_in)
  go_quiet ((go_at_call 10; exact Calls.quiet_of_same (sp17 _)))
  go_wp2
  go_ret
  exact ⟨ret_bool (by decide +kernel), _, rfl⟩

theorem law29 (w : World) : Calls Try.prog 5 #[.int .i64 29] w fun e w' => e = .returned (.bool true) ∧ ∃ q, w' = w.drewN q := by
  go_enter Try.func5, Try.ntmps5
  go_wp2_with (first | (go_at_call 10; refine (sp29 _).mono ?_; rintro e w' ⟨rfl, rfl⟩) | (go_at_call 11; refine (comp29 _).mono ?_; rintro e w' ⟨rfl, rfl⟩) | go_in)
  go_quiet ((go_at_call 10; exact Calls.quiet_of_same (sp18 _)))
  go_wp2
  go_ret
  exact ⟨ret_bool (by decide +kernel), _, rfl⟩

theorem law30 (w : World) : Calls Try.prog 5 #[.int .i64 30] w fun e w' => e = .returned (.bool true) ∧ ∃ q, w' = w.drewN q := by
  go_enter Try.func5, Try.ntmps5
  go_wp2_with (first | (go_at_call 10; refine (sp30 _).mono ?_; rintro e w' ⟨rfl, rfl⟩) | (go_at_call 11; refine (comp30 _).mono ?_; rintro e w' ⟨rfl, rfl⟩) | go_in)
  go_quiet ((go_at_call 10; exact Calls.quiet_of_same (sp19 _)))
  go_wp2
  go_ret
  exact ⟨ret_bool (by decide +kernel), _, rfl⟩

theorem law31 (w : World) : Calls Try.prog 5 #[.int .i64 31] w fun e w' => e = .returned (.bool true) ∧ ∃ q, w' = w.drewN q := by
  go_enter Try.func5, Try.ntmps5
  go_wp2_with (first | (go_at_call 10; refine (sp31 _).mono ?_; rintro e w' ⟨rfl, rfl⟩) | (go_at_call 11; refine (comp31 _).mono ?_; rintro e w' ⟨rfl, rfl⟩) | go_in)
  go_quiet ((go_at_call 10; exact Calls.quiet_of_same (sp20 _)))
  go_wp2
  go_ret
  exact ⟨ret_bool (by decide +kernel), _, rfl⟩

theorem law32 (w : World) : Calls Try.prog 5 #[.int .i64 32] w fun e w' => e = .returned (.bool true) ∧ ∃ q, w' = w.drewN q := by
  go_enter Try.func5, Try.ntmps5
  go_wp2_with (first | (go_at_call 10; refine (sp32 _).mono ?_; rintro e w' ⟨rfl, rfl⟩) | (go_at_call 11; refine (comp32 _).mono ?_; rintro e w' ⟨rfl, rfl⟩) | go_in)
  go_quiet ((go_at_call 10; exact Calls.quiet_of_same (sp21 _)))
  go_wp2
  go_ret
  exact ⟨ret_bool (by decide +kernel), _, rfl⟩

end Go.Proofs.Qxb6603930a.Ops
