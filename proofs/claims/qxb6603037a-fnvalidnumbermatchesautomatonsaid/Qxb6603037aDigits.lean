import Derived.Test.Qxb6603037aNum
set_option linter.unusedVariables false
namespace Go.Proofs.Qxb6603037a.Walk
open Go.RowKit
open Go.Proofs.Qxb6603037a.Num

theorem dig_ends {b d n c a k en : Nat} {f : Nat → Int} {w w' : World} (h : k = en) (hS : Scan b d n c f k w') (hB : Below b w w') :
    Ending.returned (.bool (decide (a < k))) = .returned (.bool (decide (a < en))) ∧ Scan b d n c f en w' ∧ Below b w w' := by
  subst h
  exact ⟨rfl, hS, hB⟩

set_option maxHeartbeats 1000000 in
set_option maxRecDepth 100000 in
/-- What 'validDigits' does. -/
theorem digits_any (b d n c : Nat) (f : Nat → Int) (a : Nat) (w : World) (hn : n ≤ 1048576) (ha : a ≤ n) (hd : d < b) (hS : Scan b d n c f a w) :
    Calls Try.prog 32 #[.pointer (some ⟨b, 0, none⟩)] w fun e w' => e = .returned (.bool (decide (a < D f n a))) ∧ Scan b d n c f (D f n a : Nat) w' ∧ Below b w w' := by
  obtain ⟨en, hF⟩ : ∃ en, D f n a = en := ⟨_, rfl⟩
  have hle := D_le f n a ha
  rw [hF] at hle ⊢
  have HF : Hid (D f n a = en) := hF
  have HS : Hid _ := hS
  obtain ⟨s0, s1, s2, s3⟩ := hS
  clear hF s3
  go_enter Try.func32, Try.ntmps32
  go_wp2
  clear s0 s1 s2
  go_loopw [] (fun wr => ∃ k : Nat, a ≤ k ∧ k ≤ n ∧ Hid (Scan b d n c f k wr) ∧ Below b w wr ∧ Hid (D f n k = en)) (fun wr => left b n wr)
  case atStart => exact ⟨a, by omega, ha, HS, Below.refl b w, HF⟩
  case round =>
    obtain ⟨k, hak, hk, HSk, hwr, HD⟩ := hrel
    obtain ⟨s0, s1, s2, s3⟩ := HSk.out
    clear HS HF
    by_cases hlt : k < n
    · have hck := s3 k hlt
      clear s3
      by_cases h48 : 48 ≤ f k
      · by_cases h57 : f k ≤ 57
        · have R : Hid (D f n (k + 1) = en) := (D_yes f n k hlt (by simp [digB, h48, h57])).symm.trans HD.out
          go_wp2
          go_quiet (fail)
          go_wp2
          go_roundw
          case rel => exact ⟨k + 1, by omega, by omega, ((HSk.out.drewN _).set hd _).eq (by omega), (below_drewN hwr _).setCell (p := ⟨b, 1, none⟩) (Nat.le_refl _) _, R⟩
          case measure => exact left_lt HSk.out ((HSk.out.drewN _).set hd _) (by omega) (by omega) (by omega)
        · have R : D f n k = k := D_no f n k (by simp [digB]; omega)
          have g : decide (f k ≤ 57) = false := decide_eq_false h57
          go_wp2
          go_quiet (fail)
          go_wp2
          go_ret
          exact dig_ends (R.symm.trans HD.out) (HSk.out.drewN _) (below_drewN hwr _)
      · have R : D f n k = k := D_no f n k (by simp [digB]; omega)
        have g : decide (48 ≤ f k) = false := decide_eq_false h48
        go_wp2
        go_quiet (fail)
        go_wp2
        go_ret
        exact dig_ends (R.symm.trans HD.out) (HSk.out.drewN _) (below_drewN hwr _)
    · have R : D f n k = k := D_no f n k (by omega)
      have g : decide ((k : Int) < (n : Int)) = false := decide_eq_false (by omega)
      clear s3
      go_wp2
      go_quiet (fail)
      go_wp2
      go_ret
      exact dig_ends (R.symm.trans HD.out) (HSk.out.drewN _) (below_drewN hwr _)

end Go.Proofs.Qxb6603037a.Walk
