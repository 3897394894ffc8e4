import Derived.Test.Qxb6603037aSkip
set_option linter.unusedVariables false
namespace Go.Proofs.Qxb6603037a.Walk
open Go.RowKit
open Go.Proofs.Qxb6603037a.Str (V V_le)
open Go.Proofs.Qxb6603037a.Val

theorem op_two {c : Int} (h : opB c = true) : c = 123 ∨ c = 91 := by simpa [opB] using h
theorem op_not {c : Int} (h : opB c = false) : (c == 123) = false ∧ (c == 91) = false := by
  simp only [opB, decide_eq_false_iff_not] at h
  exact ⟨beq_eq_false_iff_ne.2 (by omega), beq_eq_false_iff_ne.2 (by omega)⟩
theorem cl_two {c : Int} (h : clB c = true) : c = 125 ∨ c = 93 := by simpa [clB] using h
theorem cl_not {c : Int} (h : clB c = false) : (c == 125) = false ∧ (c == 93) = false := by
  simp only [clB, decide_eq_false_iff_not] at h
  exact ⟨beq_eq_false_iff_ne.2 (by omega), beq_eq_false_iff_ne.2 (by omega)⟩

set_option maxHeartbeats 4000000 in
set_option maxRecDepth 100000 in
/-- 'value' at a string. -/
theorem value_str (b d n c : Nat) (f : Nat → Int) (a s e : Nat) (w : World) (hn : n ≤ 1048576) (hnc : n ≤ c) (hcm : c ≤ 1048576) (ha : a ≤ n) (hd : d < b) (hS : Scan b d n c f a w) (hW : W f n a = s) (hs : s < n) (hse : s ≤ e) (hen : e ≤ n)
    (h34 : f s = 34) (hV : V f n (s + 1) = (true, e)) :
    Calls Try.prog 31 #[.pointer (some ⟨b, 0, none⟩)] w fun r w' => r = .returned (.slice (some ⟨d, s, none⟩) (e - s) (c - s)) ∧ Scan b d n c f e w' ∧ Below b w w' := by
  have HS : Hid _ := hS
  have HW : Hid (W f n a = s) := hW
  have HV : Hid (V f n (s + 1) = (true, e)) := hV
  have g34 : (f s == 34) = true := beq_iff_eq.2 h34
  clear hS hW hV h34
  go_enter Try.func31, Try.ntmps31
  go_wp2_with fail
  refine (space_any b d n c f a _ hn ha hd HS.out).mono ?_
  rintro r w1 ⟨rfl, hS1, hB1⟩
  rw [HW.out] at hS1
  have HS1 : Hid _ := hS1
  obtain ⟨s0, s1, s2, s3⟩ := hS1
  have hck := s3 s hs
  clear s3 HS HW
  go_wp2
  go_quiet (fail)
  go_wp2_with fail
  refine (string_any b d n c f s e _ hn hs hd (HS1.out.drewN _) HV.out).mono ?_
  rintro r w2 ⟨rfl, hS2, hB2⟩
  have HS2 : Hid _ := hS2
  have hB : Below b w w2 := (below_drewN hB1 _).trans hB2
  clear s0 s1 s2 hck HS1 hB1 hB2
  obtain ⟨s0, s1, s2, s3⟩ := hS2
  clear s3
  go_wp2
  go_quiet (fail)
  go_wp2
  go_ret
  exact ⟨rfl, HS2.out.drewN _, below_drewN hB _⟩

set_option maxHeartbeats 4000000 in
set_option maxRecDepth 100000 in
/-- 'value' at a number, true, false or null. -/
theorem value_lit (b d n c : Nat) (f : Nat → Int) (a s e : Nat) (w : World) (hn : n ≤ 1048576) (hnc : n ≤ c) (hcm : c ≤ 1048576) (ha : a ≤ n) (hd : d < b) (hS : Scan b d n c f a w) (hW : W f n a = s) (hs : s < n) (hse : s ≤ e) (hen : e ≤ n)
    (h34 : f s ≠ 34) (ho : opB (f s) = false) (hall : ∀ j, s ≤ j → j < e → endB (f j) = false) (hfol : e < n → endB (f e) = true) :
    Calls Try.prog 31 #[.pointer (some ⟨b, 0, none⟩)] w fun r w' => r = .returned (.slice (some ⟨d, s, none⟩) (e - s) (c - s)) ∧ Scan b d n c f e w' ∧ Below b w w' := by
  have HS : Hid _ := hS
  have HW : Hid (W f n a = s) := hW
  have HA : Hid _ := hall
  have HF : Hid _ := hfol
  have g34 : (f s == 34) = false := beq_eq_false_iff_ne.2 h34
  obtain ⟨g123, g91⟩ := op_not ho
  clear hS hW h34 ho hall hfol
  go_enter Try.func31, Try.ntmps31
  go_wp2_with fail
  refine (space_any b d n c f a _ hn ha hd HS.out).mono ?_
  rintro r w1 ⟨rfl, hS1, hB1⟩
  rw [HW.out] at hS1
  have HS1 : Hid _ := hS1
  obtain ⟨s0, s1, s2, s3⟩ := hS1
  have hck := s3 s hs
  clear s3 HS HW
  go_wp2
  go_quiet (fail)
  go_wp2
  go_loopg [] (n - s) (fun gk wr => ∃ k : Nat, s ≤ k ∧ k ≤ e ∧ n - k ≤ gk ∧ Hid (Scan b d n c f k wr) ∧ Below b w wr)
  case atStart => exact ⟨s, Nat.le_refl _, hse, Nat.le_refl _, HS1.out.drewN _, below_drewN hB1 _⟩
  case round =>
    obtain ⟨k, hsk, hke, hgk, HSk, hwr⟩ := hrel
    clear s0 s1 s2 hck HS1 hB1
    obtain ⟨s0, s1, s2, s3⟩ := HSk.out
    by_cases hlt : k < e
    · have hkn : k < n := by omega
      have hkl : (k : Int) < (n : Int) := by omega
      have hck := s3 k hkn
      have hE := HA.out k hsk hlt
      clear s3
      go_wp2
      go_quiet ((go_at_call 36; exact Calls.quiet_of_same (ends_any _ _)))
      go_wp2
      go_roundg (n - (k + 1))
      case measure => omega
      case rel => exact ⟨k + 1, by omega, by omega, by omega, ((HSk.out.drewN _).set hd _).eq (by omega), (below_drewN hwr _).setCell (p := ⟨b, 1, none⟩) (Nat.le_refl _) _⟩
    · obtain rfl : k = e := by omega
      by_cases hkn : k < n
      · have hkl : (k : Int) < (n : Int) := by omega
        have hck := s3 k hkn
        have hE := HF.out hkn
        clear s3
        go_wp2
        go_quiet ((go_at_call 36; exact Calls.quiet_of_same (ends_any _ _)))
        go_wp2
        go_quiet (fail)
        go_wp2
        go_ret
        exact ⟨rfl, (HSk.out.drewN _).drewN _, below_drewN (below_drewN hwr _) _⟩
      · have hkl : decide ((k : Int) < (n : Int)) = false := decide_eq_false (by omega)
        clear s3
        go_wp2
        go_quiet ((go_at_call 36; exact Calls.quiet_of_same (ends_any _ _)))
        go_wp2
        go_quiet (fail)
        go_wp2
        go_ret
        exact ⟨rfl, (HSk.out.drewN _).drewN _, below_drewN (below_drewN hwr _) _⟩

end Go.Proofs.Qxb6603037a.Walk
