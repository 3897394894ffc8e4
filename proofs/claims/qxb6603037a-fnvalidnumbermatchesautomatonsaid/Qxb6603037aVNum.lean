import Derived.Test.Qxb6603037aDigits
import Derived.Deep.CutRange
import Derived.Deep.CutBlock
set_option linter.unusedVariables false
namespace Go.Proofs.Qxb6603037a.Walk
open Go.RowKit
open Go.Proofs.Qxb6603037a.Num

def dotB (f : Nat → Int) (n k : Nat) : Bool := decide (k < n ∧ f k = 46)
def exB (f : Nat → Int) (n k : Nat) : Bool := decide (k < n ∧ expB (f k) = true)
def sgB (f : Nat → Int) (n k : Nat) : Bool := decide (k < n ∧ sgnB (f k) = true)
theorem val_bool {a b : Bool} (h : a = b) : Value.bool a = Value.bool b := by rw [h]
theorem num_minus {f : Nat → Int} {n a : Nat} {r : Bool × Nat} (h : (f a == 45) = true) (hF : num f n a = r) : whole f n (a + 1) = r := by
  unfold num at hF
  rwa [if_pos (beq_iff_eq.1 h)] at hF
theorem num_plain {f : Nat → Int} {n a : Nat} {r : Bool × Nat} (h : (f a == 45) = false) (hF : num f n a = r) : whole f n a = r := by
  unfold num at hF
  rwa [if_neg (beq_eq_false_iff_ne.1 h)] at hF
theorem whole_zero {f : Nat → Int} {n a : Nat} {r : Bool × Nat} (h : a < n ∧ f a = 48) (hF : whole f n a = r) : frac f n (a + 1) = r := by
  unfold whole at hF
  rwa [if_pos h] at hF
theorem whole_digits {f : Nat → Int} {n a : Nat} {r : Bool × Nat} (h : ¬ (a < n ∧ f a = 48)) (hD : a < D f n a) (hF : whole f n a = r) : frac f n (D f n a) = r := by
  unfold whole at hF
  rwa [if_neg h, if_pos hD] at hF
theorem whole_none {f : Nat → Int} {n a : Nat} {r : Bool × Nat} (h : ¬ (a < n ∧ f a = 48)) (hD : ¬ a < D f n a) (hF : whole f n a = r) : (false, D f n a) = r := by
  unfold whole at hF
  rwa [if_neg h, if_neg hD] at hF
theorem frac_yes {f : Nat → Int} {n a : Nat} {r : Bool × Nat} (h : a < n ∧ f a = 46) (hD : a + 1 < D f n (a + 1)) (hF : frac f n a = r) : expo f n (D f n (a + 1)) = r := by
  unfold frac at hF
  rwa [if_pos h, if_pos hD] at hF
theorem frac_bad {f : Nat → Int} {n a : Nat} {r : Bool × Nat} (h : a < n ∧ f a = 46) (hD : ¬ a + 1 < D f n (a + 1)) (hF : frac f n a = r) : (false, D f n (a + 1)) = r := by
  unfold frac at hF
  rwa [if_pos h, if_neg hD] at hF
theorem frac_none {f : Nat → Int} {n a : Nat} {r : Bool × Nat} (h : ¬ (a < n ∧ f a = 46)) (hF : frac f n a = r) : expo f n a = r := by
  unfold frac at hF
  rwa [if_neg h] at hF
theorem expo_none {f : Nat → Int} {n a : Nat} {r : Bool × Nat} (h : ¬ (a < n ∧ expB (f a) = true)) (hF : expo f n a = r) : (true, a) = r := by
  unfold expo at hF
  rwa [if_neg h] at hF
theorem expo_yes {f : Nat → Int} {n a : Nat} {r : Bool × Nat} (h : a < n ∧ expB (f a) = true) (hF : expo f n a = r) : (decide (sg f n (a + 1) < D f n (sg f n (a + 1))), D f n (sg f n (a + 1))) = r := by
  unfold expo at hF
  rwa [if_pos h] at hF

set_option maxHeartbeats 4000000 in
set_option maxRecDepth 100000 in
/-- What 'validNumber' does. -/
theorem vnum_core (b d n c : Nat) (f : Nat → Int) (a : Nat) (ok : Bool) (en : Nat) (w : World) (hn : n ≤ 1048576) (ha : a < n) (hd : d < b) (hS : Scan b d n c f a w) (hF : num f n a = (ok, en)) :
    Calls Try.prog 24 #[.pointer (some ⟨b, 0, none⟩)] w fun e w' => e = .returned (.bool ok) ∧ Scan b d n c f en w' ∧ Below b w w' := by
  have HF : Hid (num f n a = (ok, en)) := hF
  have HS : Hid _ := hS
  obtain ⟨s0, s1, s2, s3⟩ := hS
  have hck := s3 a ha
  clear hF s3
  go_enter Try.func24, Try.ntmps24
  go_wp2
  go_quiet (fail)
  go_upto_if 13 with fail
  go_cut [] from 3 (fun wc => ∃ k : Nat, k ≤ n ∧ Hid (Scan b d n c f k wc) ∧ Below b w wc ∧ Hid (whole f n k = (ok, en)))
  case first =>
    as_aux_lemma =>
      go_wp2
      · have h : (f a == 45) = true := by assumption
        go_meet
        case rel => exact ⟨a + 1, by omega, ((HS.out.drewN _).set hd _).eq (by omega), (below_drewN (Below.refl b w) _).setCell (p := ⟨b, 1, none⟩) (Nat.le_refl _) _, num_minus h HF.out⟩
      · have h : (f a == 45) = false := by assumption
        go_meet
        case rel => exact ⟨a, by omega, HS.out.drewN _, below_drewN (Below.refl b w) _, num_plain h HF.out⟩
  case rest =>
    clear s0 s1 s2 hck HS HF
    obtain ⟨k, hk, HSk, hwr, HW⟩ := hcut
    go_upto_block 0 with fail
    go_cut [] from 3 (fun wc => ∃ k : Nat, k ≤ n ∧ Hid (Scan b d n c f k wc) ∧ Below b w wc ∧ Hid (frac f n k = (ok, en)))
    case first =>
      as_aux_lemma =>
        obtain ⟨s0, s1, s2, s3⟩ := HSk.out
        by_cases hz : k < n ∧ f k = 48
        · have hck := s3 k hz.1
          have hkl : (k : Int) < (n : Int) := by omega
          have hb : (f k == 48) = true := beq_iff_eq.2 hz.2
          have HZ : Hid (frac f n (k + 1) = (ok, en)) := whole_zero hz HW.out
          clear s3 hz
          go_wp2
          go_quiet (fail)
          go_wp2
          go_meet
          case rel => exact ⟨k + 1, by omega, ((HSk.out.drewN _).set hd _).eq (by omega), (below_drewN hwr _).setCell (p := ⟨b, 1, none⟩) (Nat.le_refl _) _, HZ⟩
        · have hw : (∃ h : k < n, (f k == 48) = false) ∨ (¬ k < n) := by
            by_cases h : k < n
            · exact Or.inl ⟨h, beq_eq_false_iff_ne.2 fun e => hz ⟨h, e⟩⟩
            · exact Or.inr h
          have HZ : Hid (¬ (k < n ∧ f k = 48)) := hz
          clear hz
          rcases hw with ⟨h, h48⟩ | hge
          · have hck := s3 k h
            clear s3
            go_wp2
            go_quiet (fail)
            go_wp2_with fail
            refine (digits_any b d n c f k _ hn hk hd (HSk.out.drewN _)).mono ?_
            rintro e w1 ⟨rfl, hS1, hB1⟩
            have hB1' : Below b w w1 := (below_drewN hwr _).trans hB1
            have HS1 : Hid _ := hS1
            have hDl := D_le f n k hk
            clear hS1 hB1 s0 s1 s2 hck h48
            by_cases hD : k < D f n k
            · have R : Hid (frac f n (D f n k) = (ok, en)) := whole_digits HZ.out hD HW.out
              go_wp2
              go_meet
              case rel => exact ⟨D f n k, hDl.2, HS1, hB1', R⟩
            · have R : Hid ((false, D f n k) = (ok, en)) := whole_none HZ.out hD HW.out
              go_wp2
              go_ret
              exact ends R.out HS1.out rfl hB1'
          · have hge' : decide ((k : Int) < (n : Int)) = false := decide_eq_false (by omega)
            clear s3
            go_wp2
            go_quiet (fail)
            go_wp2_with fail
            refine (digits_any b d n c f k _ hn hk hd (HSk.out.drewN _)).mono ?_
            rintro e w1 ⟨rfl, hS1, hB1⟩
            have hB1' : Below b w w1 := (below_drewN hwr _).trans hB1
            have HS1 : Hid _ := hS1
            have hDl := D_le f n k hk
            clear hS1 hB1 s0 s1 s2
            by_cases hD : k < D f n k
            · have R : Hid (frac f n (D f n k) = (ok, en)) := whole_digits HZ.out hD HW.out
              go_wp2
              go_meet
              case rel => exact ⟨D f n k, hDl.2, HS1, hB1', R⟩
            · have R : Hid ((false, D f n k) = (ok, en)) := whole_none HZ.out hD HW.out
              go_wp2
              go_ret
              exact ends R.out HS1.out rfl hB1'
    case rest =>
      clear HSk hwr HW hk k
      obtain ⟨k, hk, HSk, hwr, HW⟩ := hcut
      go_upto_region 7 with fail
      go_cut [78] from 3 (fun t wc => t = .bool (dotB f n k) ∧ Hid (Scan b d n c f k wc) ∧ Below b w wc)
      case first =>
        as_aux_lemma =>
          obtain ⟨s0, s1, s2, s3⟩ := HSk.out
          by_cases h : k < n
          · have hck := s3 k h
            clear s3
            go_quiet (fail)
            go_wp2
            go_meet
            case rel => exact ⟨val_bool (by rw [Bool.eq_iff_iff]; simp [dotB, h]), HSk.out.drewN _, below_drewN hwr _⟩
          · have hge : decide ((k : Int) < (n : Int)) = false := decide_eq_false (by omega)
            clear s3
            go_quiet (fail)
            go_wp2
            go_meet
            case rel => exact ⟨val_bool (by rw [Bool.eq_iff_iff]; simp [dotB, h]), HSk.out.drewN _, below_drewN hwr _⟩
      case rest =>
        clear HSk hwr
        obtain ⟨rfl, HSk, hwr⟩ := hcut
        go_upto_if 78 with fail
        go_cut [] from 3 (fun wc => ∃ k : Nat, k ≤ n ∧ Hid (Scan b d n c f k wc) ∧ Below b w wc ∧ Hid (expo f n k = (ok, en)))
        case first =>
          as_aux_lemma =>
            obtain ⟨s0, s1, s2, s3⟩ := HSk.out
            clear s3
            by_cases hp : k < n ∧ f k = 46
            · have hpt : dotB f n k = true := decide_eq_true hp
              rw [hpt]
              clear hpt
              have HP : Hid (k < n ∧ f k = 46) := hp
              clear hp
              go_wp2_with fail
              refine (digits_any b d n c f (k + 1) _ hn (by have := HP.out.1; omega) hd ((HSk.out.set hd _).eq (by omega))).mono ?_
              rintro e w1 ⟨rfl, hS1, hB1⟩
              have hB1' : Below b w w1 := (hwr.setCell (p := ⟨b, 1, none⟩) (Nat.le_refl _) _).trans hB1
              have HS1 : Hid _ := hS1
              have hDl := D_le f n (k + 1) (by have := HP.out.1; omega)
              clear hS1 hB1 s0 s1 s2
              by_cases hD : k + 1 < D f n (k + 1)
              · have R : Hid (expo f n (D f n (k + 1)) = (ok, en)) := frac_yes HP.out hD HW.out
                go_wp2
                go_meet
                case rel => exact ⟨D f n (k + 1), hDl.2, HS1, hB1', R⟩
              · have R : Hid ((false, D f n (k + 1)) = (ok, en)) := frac_bad HP.out hD HW.out
                go_wp2
                go_ret
                exact ends R.out HS1.out rfl hB1'
            · have hpt : dotB f n k = false := decide_eq_false hp
              rw [hpt]
              clear hpt
              have R : Hid (expo f n k = (ok, en)) := frac_none hp HW.out
              clear hp
              go_wp2
              go_meet
              case rel => exact ⟨k, hk, HSk, hwr, R⟩
        case rest =>
          clear HSk hwr HW hk k
          obtain ⟨k, hk, HSk, hwr, HW⟩ := hcut
          go_upto_region 11 with fail
          go_cut [124] from 3 (fun t wc => t = .bool (exB f n k) ∧ Hid (Scan b d n c f k wc) ∧ Below b w wc)
          case first =>
            as_aux_lemma =>
              obtain ⟨s0, s1, s2, s3⟩ := HSk.out
              by_cases h : k < n
              · have hck := s3 k h
                clear s3
                by_cases h101 : f k = 101
                · have g : (f k == 101) = true := beq_iff_eq.2 h101
                  have R : Hid (true = exB f n k) := by show true = exB f n k; simp [exB, expB, h, h101]
                  clear h101
                  go_quiet (fail)
                  go_wp2
                  go_meet
                  case rel => exact ⟨val_bool R.out, HSk.out.drewN _, below_drewN hwr _⟩
                · have g : (f k == 101) = false := beq_eq_false_iff_ne.2 h101
                  have R : Hid ((f k == 69) = exB f n k) := by show (f k == 69) = exB f n k; rw [Bool.eq_iff_iff]; simp [exB, expB, h, h101]
                  clear h101
                  go_quiet (fail)
                  go_wp2
                  go_meet
                  case rel => exact ⟨val_bool R.out, HSk.out.drewN _, below_drewN hwr _⟩
              · have hge : decide ((k : Int) < (n : Int)) = false := decide_eq_false (by omega)
                clear s3
                go_quiet (fail)
                go_wp2
                go_meet
                case rel => exact ⟨val_bool (by rw [Bool.eq_iff_iff]; simp [exB, h]), HSk.out.drewN _, below_drewN hwr _⟩
          case rest =>
            clear HSk hwr
            obtain ⟨rfl, HSk, hwr⟩ := hcut
            go_upto_if 124 with fail
            obtain ⟨s0, s1, s2, s3⟩ := HSk.out
            clear s3
            by_cases he : k < n ∧ expB (f k) = true
            · have het : exB f n k = true := decide_eq_true he
              rw [het]
              clear het
              have HE : Hid (k < n ∧ expB (f k) = true) := he
              have hkn := he.1
              clear he
              go_upto_region 13 with fail
              refine abs_world (fun W => Code.wp _ _ _ _ W) (HSk.out.set hd _) (hwr.setCell (p := ⟨b, 1, none⟩) (Nat.le_refl _) _) ?_
              intro w1 hS1 hB1
              have HS1 : Hid _ := hS1
              clear hS1 s0 s1 s2 HSk hwr
              go_cut [167] from 3 (fun t wc => t = .bool (sgB f n (k + 1)) ∧ Hid (Scan b d n c f ((k : Int) + 1) wc) ∧ Below b w wc)
              case first =>
                as_aux_lemma =>
                  obtain ⟨s0, s1, s2, s3⟩ := HS1.out
                  by_cases h : k + 1 < n
                  · have hck := s3 (k + 1) h
                    have hkl : (k : Int) + 1 < (n : Int) := by omega
                    clear s3
                    by_cases h43 : f (k + 1) = 43
                    · have g : (f (k + 1) == 43) = true := beq_iff_eq.2 h43
                      have R : Hid (true = sgB f n (k + 1)) := by show true = sgB f n (k + 1); simp [sgB, sgnB, h, h43]
                      clear h43
                      go_quiet (fail)
                      go_wp2
                      go_meet
                      case rel => exact ⟨val_bool R.out, HS1.out.drewN _, below_drewN hB1 _⟩
                    · have g : (f (k + 1) == 43) = false := beq_eq_false_iff_ne.2 h43
                      have R : Hid ((f (k + 1) == 45) = sgB f n (k + 1)) := by show (f (k + 1) == 45) = sgB f n (k + 1); rw [Bool.eq_iff_iff]; simp [sgB, sgnB, h, h43]
                      clear h43
                      go_quiet (fail)
                      go_wp2
                      go_meet
                      case rel => exact ⟨val_bool R.out, HS1.out.drewN _, below_drewN hB1 _⟩
                  · have hge : decide ((k : Int) + 1 < (n : Int)) = false := decide_eq_false (by omega)
                    have hge' : (n : Int) ≤ (k : Int) + 1 := by omega
                    clear s3
                    go_quiet (fail)
                    go_wp2
                    go_meet
                    case rel => exact ⟨val_bool (by rw [Bool.eq_iff_iff]; simp [sgB, h]), HS1.out.drewN _, below_drewN hB1 _⟩
              case rest =>
                clear HS1 hB1
                obtain ⟨rfl, HS1, hB1⟩ := hcut
                go_upto_if 167 with fail
                go_cut [] from 3 (fun wc => Hid (Scan b d n c f (sg f n (k + 1) : Nat) wc) ∧ Below b w wc)
                case first =>
                  as_aux_lemma =>
                    obtain ⟨s0, s1, s2, s3⟩ := HS1.out
                    clear s3
                    by_cases hs : k + 1 < n ∧ sgnB (f (k + 1)) = true
                    · have hst : sgB f n (k + 1) = true := decide_eq_true hs
                      rw [hst]
                      clear hst
                      have R : Hid (sg f n (k + 1) = k + 2) := by show sg f n (k + 1) = k + 2; unfold sg; rw [if_pos hs]
                      clear hs
                      go_wp2
                      go_meet
                      case rel => exact ⟨(HS1.out.set hd _).eq (by rw [R.out]; omega), hB1.setCell (p := ⟨b, 1, none⟩) (Nat.le_refl _) _⟩
                    · have hst : sgB f n (k + 1) = false := decide_eq_false hs
                      rw [hst]
                      clear hst
                      have R : Hid (sg f n (k + 1) = k + 1) := by show sg f n (k + 1) = k + 1; unfold sg; rw [if_neg hs]
                      clear hs
                      go_wp2
                      go_meet
                      case rel => exact ⟨HS1.out.eq (by rw [R.out]; omega), hB1⟩
                case rest =>
                  clear HS1 hB1
                  obtain ⟨HS1, hB1⟩ := hcut
                  have hsl : sg f n (k + 1) ≤ n := by unfold sg; split <;> omega
                  have R : Hid ((decide (sg f n (k + 1) < D f n (sg f n (k + 1))), D f n (sg f n (k + 1))) = (ok, en)) := expo_yes HE.out HW.out
                  generalize sg f n (k + 1) = m at *
                  go_wp2_with fail
                  refine (digits_any b d n c f m _ hn hsl hd HS1.out).mono ?_
                  rintro e w2 ⟨rfl, hS2, hB2⟩
                  have HS2 : Hid _ := hS2
                  have hB2' : Below b w w2 := hB1.trans hB2
                  clear hS2 hB2
                  go_wp2
                  go_ret
                  exact ends R.out HS2.out rfl hB2'
            · have het : exB f n k = false := decide_eq_false he
              rw [het]
              clear het
              have R : Hid ((true, k) = (ok, en)) := expo_none he HW.out
              clear he
              go_wp2
              go_ret
              exact ends R.out HSk.out rfl hwr

end Go.Proofs.Qxb6603037a.Walk
