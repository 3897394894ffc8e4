import Derived.Test.Qxb6603037aBase
namespace Go.Proofs.Qxb6603037a.Walk
open Go.RowKit
open Go.Proofs.Qxb6603037a.Str

theorem ret_two {b ok : Bool} {m en : Nat} {x : Int} (h : (b, m) = (ok, en)) (hx : x = (m : Int)) : Ending.returned (.tuple #[.bool b, .int .i64 x]) = .returned (.tuple #[.bool ok, .int .i64 en]) := by
  simp only [Prod.mk.injEq] at h
  rw [h.1, hx, h.2]

set_option maxHeartbeats 1000000 in
/-- What 'modelString' computes. -/
theorem model_core (d n c : Nat) (f : Nat → Int) (a : Nat) (ok : Bool) (en : Nat) (w : World) (hn : n ≤ 1048576) (ha : a < n) (hc : ∀ j, j < n → w.cell? ⟨d, j, none⟩ = some (.int .u8 (f j))) (hF : V f n (a + 1) = (ok, en)) :
    Calls Try.prog 10 #[.slice (some ⟨d, 0, none⟩) n c, .int .i64 a] w fun e w' => e = .returned (.tuple #[.bool ok, .int .i64 en]) ∧ w' = w := by
  have HC : Hid _ := hc
  have HF : Hid (V f n (a + 1) = (ok, en)) := hF
  clear hc hF
  go_enter Try.func10, Try.ntmps10
  go_wp2
  go_loop [6, 7, 8, 9] (fun st l u i => ∃ k lN uN : Nat, k ≤ n ∧ lN ≤ 4 ∧ uN ≤ n ∧ i = .int .i64 k ∧ l = .int .i64 lN ∧ u = .int .i64 uN ∧
      ((st = .int .i64 0 ∧ Hid (V f n k = (ok, en))) ∨ (st = .int .i64 1 ∧ Hid (E f n k = (ok, en))) ∨ (st = .int .i64 2 ∧ 1 ≤ lN ∧ Hid (H f n uN lN k = (ok, en))))) (fun _ _ _ i => n - (intOf i).toNat)
  case atStart => exact ⟨a + 1, 0, 0, by omega, by omega, by omega, by go_num, rfl, rfl, Or.inl ⟨rfl, HF⟩⟩
  case round =>
    obtain ⟨k, l, u, hk, hl, hu, rfl, rfl, rfl, hst⟩ := hrel
    by_cases hlt : k < n
    · have hck := HC.out k hlt
      rcases hst with ⟨rfl, HV⟩ | ⟨rfl, HE⟩ | ⟨rfl, h1, HH⟩
      · go_wp2
        · have h : (f k == 34) = true := by assumption
          go_ret2
          exact ⟨ret_two ((V_quote f n k hlt (by simpa using h)).symm.trans HV.out) (by omega), rfl⟩
        · have h : f k < 32 := by assumption
          go_ret2
          exact ⟨ret_two ((V_ctl f n k hlt h).symm.trans HV.out) rfl, rfl⟩
        · have h : (f k == 92) = true := by assumption
          have R : Hid (E f n (k + 1) = (ok, en)) := (V_esc f n k hlt (by simpa using h)).symm.trans HV.out
          go_round
          case rel => exact ⟨k + 1, l, u, by omega, hl, hu, by go_num, rfl, rfl, Or.inr (Or.inl ⟨rfl, R⟩)⟩
          case measure => simp [intOf]; omega
        · have h1 : (f k == 34) = false := by assumption
          have h2 : 32 ≤ f k := by assumption
          have h3 : (f k == 92) = false := by assumption
          have R : Hid (V f n (k + 1) = (ok, en)) := (V_step f n k hlt (by simpa using h1) h2 (by simpa using h3)).symm.trans HV.out
          go_round
          case rel => exact ⟨k + 1, l, u, by omega, hl, hu, by go_num, rfl, rfl, Or.inl ⟨rfl, R⟩⟩
          case measure => simp [intOf]; omega
      · go_wp2_with (first
          | (go_at_call 22; refine (sim_any _ _).mono ?_; rintro e w' ⟨rfl, rfl⟩))
        · have h : simB (f k) = true := by assumption
          have R : Hid (V f n (k + 1) = (ok, en)) := (E_sim f n k hlt h).symm.trans HE.out
          go_round
          case rel => exact ⟨k + 1, l, u, by omega, hl, hu, by go_num, rfl, rfl, Or.inl ⟨rfl, R⟩⟩
          case measure => simp [intOf]; omega
        · have h : simB (f k) = false := by assumption
          have h2 : (f k == 117) = true := by assumption
          have R : Hid (H f n k 4 (k + 1) = (ok, en)) := (E_u f n k hlt h (by simpa using h2)).symm.trans HE.out
          go_round
          case rel => exact ⟨k + 1, 4, k, by omega, by omega, by omega, by go_num, rfl, rfl, Or.inr (Or.inr ⟨rfl, by omega, R⟩)⟩
          case measure => simp [intOf]; omega
        · have h : simB (f k) = false := by assumption
          have h2 : (f k == 117) = false := by assumption
          go_ret2
          exact ⟨ret_two ((E_bad f n k hlt h (by simpa using h2)).symm.trans HE.out) rfl, rfl⟩
      · obtain ⟨m, rfl⟩ : ∃ m, l = m + 1 := ⟨l - 1, by omega⟩
        go_wp2_with (first
          | (go_at_call 23; refine (hex_any _ _).mono ?_; rintro e w' ⟨rfl, rfl⟩))
        · have h : (!hexB (f k)) = true := by assumption
          go_ret2
          exact ⟨ret_two ((H_bad f n u m k (by simpa using h)).symm.trans HH.out) rfl, rfl⟩
        · have h : (!hexB (f k)) = false := by assumption
          have R : Hid (H f n u m (k + 1) = (ok, en)) := (H_step f n u m k hlt (by simpa using h)).symm.trans HH.out
          have hm : m = 0 := by
            have h3 : ((m : Int) == 0) = true := by assumption
            have h4 : (m : Int) = 0 := by simpa using h3
            omega
          subst hm
          go_round
          case rel => exact ⟨k + 1, 0, u, by omega, by omega, hu, by go_num, by go_num, rfl, Or.inl ⟨rfl, R⟩⟩
          case measure => simp [intOf]; omega
        · have h : (!hexB (f k)) = false := by assumption
          have R : Hid (H f n u m (k + 1) = (ok, en)) := (H_step f n u m k hlt (by simpa using h)).symm.trans HH.out
          have hm : m ≠ 0 := by
            have h3 : ((m : Int) == 0) = false := by assumption
            have h4 : ¬ (m : Int) = 0 := by simpa using h3
            omega
          go_round
          case rel => exact ⟨k + 1, m, u, by omega, by omega, hu, by go_num, by go_num, rfl, Or.inr (Or.inr ⟨rfl, by omega, R⟩)⟩
          case measure => simp [intOf]; omega
    · have e : k = n := by omega
      rcases hst with ⟨rfl, HV⟩ | ⟨rfl, HE⟩ | ⟨rfl, h1, HH⟩
      · clear e
        go_wp2
        go_ret2
        exact ⟨ret_two ((V_out f n k (by omega)).symm.trans HV.out) rfl, rfl⟩
      · clear e
        go_wp2
        go_ret2
        exact ⟨ret_two ((E_out f n k (by omega)).symm.trans HE.out) rfl, rfl⟩
      · clear e
        obtain ⟨m, rfl⟩ : ∃ m, l = m + 1 := ⟨l - 1, by omega⟩
        go_wp2
        go_ret2
        exact ⟨ret_two ((H_out f n u m k (by omega)).symm.trans HH.out) rfl, rfl⟩

theorem model_any (d n c : Nat) (f : Nat → Int) (a : Nat) (w : World) (hn : n ≤ 1048576) (ha : a < n) (hc : ∀ j, j < n → w.cell? ⟨d, j, none⟩ = some (.int .u8 (f j))) :
    Calls Try.prog 10 #[.slice (some ⟨d, 0, none⟩) n c, .int .i64 a] w fun e w' => e = .returned (.tuple #[.bool (V f n (a + 1)).1, .int .i64 (V f n (a + 1)).2]) ∧ w' = w :=
  model_core d n c f a _ _ w hn ha hc rfl

end Go.Proofs.Qxb6603037a.Walk
