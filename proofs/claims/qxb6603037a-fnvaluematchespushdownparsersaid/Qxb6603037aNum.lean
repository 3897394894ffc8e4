import Derived.Test.Qxb6603037aScan
import Derived.Test.Qxb6603037aNumPlain
set_option linter.unusedVariables false
namespace Go.Proofs.Qxb6603037a.Walk
open Go.RowKit
open Go.Proofs.Qxb6603037a.Num

theorem ret_int {a b : Int} (h : a = b) : Ending.returned (.int .i64 a) = .returned (.int .i64 b) := by rw [h]

theorem acc_any (s : Nat) (w : World) : Calls Try.prog 26 #[.int .i64 s] w fun e w' => e = .returned (.bool (acc s)) ∧ w' = w := by
  go_enter Try.func26, Try.ntmps26
  go_wp2
  all_goals
    go_ret
    refine ⟨ret_bool ?_, rfl⟩
    go_light
    rw [Bool.eq_iff_iff]
    simp [acc]
    omega

theorem nxt_any (s : Nat) (hs : s ≤ 8) (c : Int) (w : World) : Calls Try.prog 25 #[.int .i64 s, .int .u8 c] w fun e w' => e = .returned (.int .i64 (nxt s c)) ∧ w' = w := by
  have h9 : s = 0 ∨ s = 1 ∨ s = 2 ∨ s = 3 ∨ s = 4 ∨ s = 5 ∨ s = 6 ∨ s = 7 ∨ s = 8 := by omega
  clear hs
  rcases h9 with rfl | rfl | rfl | rfl | rfl | rfl | rfl | rfl | rfl
  all_goals
    go_enter Try.func25, Try.ntmps25
    go_wp2
    all_goals
      go_ret
      refine ⟨ret_int ?_, rfl⟩
      go_light
      try simp only [beq_iff_eq, beq_eq_false_iff_ne, ne_eq] at *
      simp only [nxt, digB, expB, sgnB, decide_eq_true_eq]
      repeat' split
      all_goals first | omega | simp_all

set_option maxHeartbeats 1000000 in
/-- What 'modelNumber' computes. -/
theorem modelN_core (d n c : Nat) (f : Nat → Int) (a : Nat) (ok : Bool) (en : Nat) (w : World) (hn : n ≤ 1048576) (ha : a < n) (hc : ∀ j, j < n → w.cell? ⟨d, j, none⟩ = some (.int .u8 (f j))) (hF : A f n 0 a = (ok, en)) :
    Calls Try.prog 13 #[.slice (some ⟨d, 0, none⟩) n c, .int .i64 a] w fun e w' => e = .returned (.tuple #[.bool ok, .int .i64 en]) ∧ w' = w := by
  have HC : Hid _ := hc
  have HF : Hid (A f n 0 a = (ok, en)) := hF
  clear hc hF
  go_enter Try.func13, Try.ntmps13
  go_wp2
  go_loop [6, 7] (fun st i => ∃ k s : Nat, k ≤ n ∧ s ≤ 8 ∧ i = .int .i64 k ∧ st = .int .i64 s ∧ Hid (A f n s k = (ok, en))) (fun _ i => n - (intOf i).toNat)
  case atStart => exact ⟨a, 0, by omega, by omega, by go_num, rfl, HF⟩
  case round =>
    obtain ⟨k, s, hk, hs, rfl, rfl, HA⟩ := hrel
    by_cases hlt : k < n
    · have hck := HC.out k hlt
      have hbd := nxt_bd s (f k)
      go_wp2_with (first
        | (go_at_call 25; refine (nxt_any _ hs _ _).mono ?_; rintro e w' ⟨rfl, rfl⟩)
        | (go_at_call 26; refine (acc_any _ _).mono ?_; rintro e w' ⟨rfl, rfl⟩))
      · have h : nxt s (f k) < 0 := by assumption
        go_ret2
        exact ⟨ret_two ((A_stop f n s k hlt h).symm.trans HA.out) rfl, rfl⟩
      · have h : ¬ nxt s (f k) < 0 := by omega
        obtain ⟨s', hs'⟩ : ∃ s' : Nat, nxt s (f k) = (s' : Int) := ⟨(nxt s (f k)).toNat, by omega⟩
        have R : Hid (A f n s' (k + 1) = (ok, en)) := (A_go f n s s' k hlt hs').symm.trans HA.out
        go_round
        case rel => exact ⟨k + 1, s', by omega, by omega, by go_num, by rw [hs'], R⟩
        case measure => simp [intOf]; omega
    · go_wp2_with (first
        | (go_at_call 26; refine (acc_any _ _).mono ?_; rintro e w' ⟨rfl, rfl⟩))
      go_ret2
      exact ⟨ret_two ((A_out f n s k (by omega)).symm.trans HA.out) rfl, rfl⟩

theorem modelN_any (d n c : Nat) (f : Nat → Int) (a : Nat) (w : World) (hn : n ≤ 1048576) (ha : a < n) (hc : ∀ j, j < n → w.cell? ⟨d, j, none⟩ = some (.int .u8 (f j))) :
    Calls Try.prog 13 #[.slice (some ⟨d, 0, none⟩) n c, .int .i64 a] w fun e w' => e = .returned (.tuple #[.bool (num f n a).1, .int .i64 (num f n a).2]) ∧ w' = w :=
  modelN_core d n c f a _ _ w hn ha hc (A_num f n a ha)

end Go.Proofs.Qxb6603037a.Walk
