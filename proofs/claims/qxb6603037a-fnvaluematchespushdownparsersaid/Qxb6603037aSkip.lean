import Derived.Test.Qxb6603037aScan
import Derived.Test.Qxb6603037aValPlain
import Derived.Deep.LoopGhost
set_option linter.unusedVariables false
namespace Go.Proofs.Qxb6603037a.Walk
open Go.RowKit
open Go.Proofs.Qxb6603037a.Str
open Go.Proofs.Qxb6603037a.Val (wsB endB W R R_yes R_no)

theorem ends_any (c : Int) (w : World) : Calls Try.prog 36 #[.int .u8 c] w fun e w' => e = .returned (.bool (endB c)) ∧ w' = w := by
  go_enter Try.func36, Try.ntmps36
  go_wp2
  all_goals
    go_ret
    refine ⟨ret_bool ?_, rfl⟩
    go_light
    simp only [beq_iff_eq, beq_eq_false_iff_ne, ne_eq] at *
    unfold endB
    symm
    first
      | (apply decide_eq_true; omega)
      | (apply decide_eq_false; omega)

theorem ws_of {c : Int} (h : (c == 32) = true ∨ (c == 9) = true ∨ (c == 10) = true ∨ (c == 13) = true) : wsB c = true := by
  simp only [beq_iff_eq] at h
  exact decide_eq_true h
theorem ws_no {c : Int} (h1 : (c == 32) = false) (h2 : (c == 9) = false) (h3 : (c == 10) = false) (h4 : (c == 13) = false) : wsB c = false := by
  simp only [beq_eq_false_iff_ne, ne_eq] at *
  apply decide_eq_false
  omega

set_option maxHeartbeats 1000000 in
set_option maxRecDepth 100000 in
/-- What 'skipSpace' does. -/
theorem space_any (b d n c : Nat) (f : Nat → Int) (a : Nat) (w : World) (hn : n ≤ 1048576) (ha : a ≤ n) (hd : d < b) (hS : Scan b d n c f a w) :
    Calls Try.prog 34 #[.pointer (some ⟨b, 0, none⟩)] w fun e w' => e = .returned (.tuple #[]) ∧ Scan b d n c f (W f n a : Nat) w' ∧ Below b w w' := by
  obtain ⟨en, hF⟩ : ∃ en, W f n a = en := ⟨_, rfl⟩
  rw [hF]
  have HF : Hid (R wsB f n a = en) := hF
  have HS : Hid _ := hS
  clear hF hS
  go_enter Try.func34, Try.ntmps34
  go_wp2
  go_loopg [] (n - a) (fun gk wr => ∃ k : Nat, k ≤ n ∧ n - k ≤ gk ∧ Hid (Scan b d n c f k wr) ∧ Below b w wr ∧ Hid (R wsB f n k = en))
  case atStart => exact ⟨a, ha, by omega, HS, Below.refl b w, HF⟩
  case round =>
    obtain ⟨k, hk, hgk, HSk, hwr, HR⟩ := hrel
    obtain ⟨s0, s1, s2, s3⟩ := HSk.out
    clear HS HF
    by_cases hlt : k < n
    · have hck := s3 k hlt
      clear s3
      go_wp2
      go_quiet (fail)
      go_wp2
      go_quiet (fail)
      go_wp2
      iterate 4
        (have hs : wsB (f k) = true := by
          first | exact ws_of (Or.inl (by assumption)) | exact ws_of (Or.inr (Or.inl (by assumption))) | exact ws_of (Or.inr (Or.inr (Or.inl (by assumption)))) | exact ws_of (Or.inr (Or.inr (Or.inr (by assumption))))
         have R' : Hid (R wsB f n (k + 1) = en) := (R_yes wsB f n k hlt hs).symm.trans HR.out
         go_roundg (n - (k + 1))
         case measure => omega
         case rel => exact ⟨k + 1, by omega, by omega, ((HSk.out.drewN _).set hd _).eq (by omega), (below_drewN hwr _).setCell (p := ⟨b, 1, none⟩) (Nat.le_refl _) _, R'⟩)
      have hs : wsB (f k) = false := ws_no (by assumption) (by assumption) (by assumption) (by assumption)
      have R' : k = en := (R_no wsB f n k (by simp [hs])).symm.trans HR.out
      refine bodyPost_ret (results_none rfl _ _ _) rfl ?_
      exact ⟨rfl, (HSk.out.drewN _).eq (by omega), below_drewN hwr _⟩
    · have R' : Hid (k = en) := (R_no wsB f n k (by omega)).symm.trans HR.out
      clear s3
      go_wp2
      go_quiet (fail)
      go_wp2
      go_end0
      exact ⟨rfl, (HSk.out.drewN _).eq (by rw [R'.out]), below_drewN hwr _⟩

theorem hex_ne (c : Int) (h : hexB c = true) : c ≠ 92 ∧ c ≠ 34 := by
  simp only [hexB, decide_eq_true_eq] at h
  omega

/-- One step of skipString inside a valid string. -/
theorem skip_inv {f : Nat → Int} {n u l k en : Nat} (h : H f n u l k = (true, en)) :
    k < n ∧ ((f k = 92 ∧ k + 2 ≤ n ∧ ∃ l' u', H f n u' l' (k + 2) = (true, en)) ∨ (f k ≠ 92 ∧ f k = 34 ∧ en = k + 1) ∨ (f k ≠ 92 ∧ f k ≠ 34 ∧ ∃ l' u', H f n u' l' (k + 1) = (true, en))) := by
  cases l with
  | zero =>
    have hV : V f n k = (true, en) := h
    by_cases hk : k < n
    · refine ⟨hk, ?_⟩
      by_cases h92 : f k = 92
      · left
        rw [V_esc f n k hk h92] at hV
        by_cases hk1 : k + 1 < n
        · refine ⟨h92, by omega, ?_⟩
          cases hs : simB (f (k + 1)) with
          | true =>
            rw [E_sim f n (k + 1) hk1 hs] at hV
            exact ⟨0, 0, hV⟩
          | false =>
            by_cases hu : f (k + 1) = 117
            · rw [E_u f n (k + 1) hk1 hs hu] at hV
              exact ⟨4, k + 1, hV⟩
            · rw [E_bad f n (k + 1) hk1 hs hu] at hV
              cases hV
        · rw [E_out f n (k + 1) (by omega)] at hV
          cases hV
      · right
        by_cases h34 : f k = 34
        · left
          rw [V_quote f n k hk h34] at hV
          simp only [Prod.mk.injEq] at hV
          exact ⟨h92, h34, hV.2.symm⟩
        · right
          by_cases hctl : f k < 32
          · rw [V_ctl f n k hk hctl] at hV
            cases hV
          · rw [V_step f n k hk h34 (by omega) h92] at hV
            exact ⟨h92, h34, 0, 0, hV⟩
    · rw [V_out f n k (by omega)] at hV
      cases hV
  | succ l =>
    by_cases hk : k < n
    · cases hb : hexB (f k) with
      | true =>
        rw [H_step f n u l k hk hb] at h
        exact ⟨hk, Or.inr (Or.inr ⟨(hex_ne _ hb).1, (hex_ne _ hb).2, l, u, h⟩)⟩
      | false => rw [H_bad f n u l k hb] at h; cases h
    · rw [H_out f n u l k (by omega)] at h
      cases h

set_option maxHeartbeats 1000000 in
set_option maxRecDepth 100000 in
/-- What 'skipString' does at a valid string. -/
theorem string_any (b d n c : Nat) (f : Nat → Int) (a en : Nat) (w : World) (hn : n ≤ 1048576) (ha : a < n) (hd : d < b) (hS : Scan b d n c f a w) (hV : V f n (a + 1) = (true, en)) :
    Calls Try.prog 35 #[.pointer (some ⟨b, 0, none⟩)] w fun e w' => e = .returned (.tuple #[]) ∧ Scan b d n c f en w' ∧ Below b w w' := by
  have HF : Hid (H f n 0 0 (a + 1) = (true, en)) := hV
  have HS : Hid (Scan b d n c f (a + 1) (w.setCell ⟨b, 1, none⟩ (.int .i64 (a + 1)))) := hS.set hd _
  obtain ⟨s0, s1, s2, s3⟩ := hS
  clear hV s3
  go_enter Try.func35, Try.ntmps35
  go_wp2
  clear s0 s1 s2
  go_loopg [] (n - a) (fun gk wr => ∃ k l u : Nat, k ≤ n ∧ n - k ≤ gk ∧ Hid (Scan b d n c f k wr) ∧ Below b w wr ∧ Hid (H f n u l k = (true, en)))
  case atStart => exact ⟨a + 1, 0, 0, by omega, by omega, HS.out.eq (by omega), (Below.refl b w).setCell (p := ⟨b, 1, none⟩) (Nat.le_refl _) _, HF⟩
  case round =>
    obtain ⟨k, l, u, hk, hgk, HSk, hwr, HH⟩ := hrel
    obtain ⟨s0, s1, s2, s3⟩ := HSk.out
    clear HS HF
    obtain ⟨hlt, hcase⟩ := skip_inv HH.out
    have hck := s3 k hlt
    clear s3 HH
    rcases hcase with ⟨h92, hk2, l', u', h'⟩ | ⟨h92, h34, he⟩ | ⟨h92, h34, l', u', h'⟩
    · have g92 : (f k == 92) = true := beq_iff_eq.2 h92
      have R' : Hid (H f n u' l' (k + 2) = (true, en)) := h'
      clear h92 h'
      go_wp2
      go_quiet (fail)
      go_wp2
      go_roundg (n - (k + 2))
      case measure => omega
      case rel => exact ⟨k + 2, l', u', hk2, by omega, ((HSk.out.drewN _).set hd _).eq (by omega), (below_drewN hwr _).setCell (p := ⟨b, 1, none⟩) (Nat.le_refl _) _, R'⟩
    · have g92 : (f k == 92) = false := beq_eq_false_iff_ne.2 h92
      have g34 : (f k == 34) = true := beq_iff_eq.2 h34
      have HE : Hid (en = k + 1) := he
      clear h92 h34 he
      go_wp2
      go_quiet (fail)
      go_wp2
      refine bodyPost_ret (results_none rfl _ _ _) rfl ?_
      exact ⟨rfl, ((HSk.out.drewN _).set hd _).eq (by rw [HE.out]; omega), (below_drewN hwr _).setCell (p := ⟨b, 1, none⟩) (Nat.le_refl _) _⟩
    · have g92 : (f k == 92) = false := beq_eq_false_iff_ne.2 h92
      have g34 : (f k == 34) = false := beq_eq_false_iff_ne.2 h34
      have R' : Hid (H f n u' l' (k + 1) = (true, en)) := h'
      clear h92 h34 h'
      go_wp2
      go_quiet (fail)
      go_wp2
      go_roundg (n - (k + 1))
      case measure => omega
      case rel => exact ⟨k + 1, l', u', by omega, by omega, ((HSk.out.drewN _).set hd _).eq (by omega), (below_drewN hwr _).setCell (p := ⟨b, 1, none⟩) (Nat.le_refl _) _, R'⟩

end Go.Proofs.Qxb6603037a.Walk
