import Derived.Test.Qxb6603037aValue
set_option linter.unusedVariables false
namespace Go.Proofs.Qxb6603037a.Walk
open Go.RowKit
open Go.Proofs.Qxb6603037a.Str (V V_le)
open Go.Proofs.Qxb6603037a.Val

set_option maxHeartbeats 4000000 in
set_option maxRecDepth 100000 in
/-- 'value' at an object or an array. -/
theorem value_open (b d n c : Nat) (f : Nat → Int) (a s e : Nat) (w : World) (hn : n ≤ 1048576) (hnc : n ≤ c) (hcm : c ≤ 1048576) (ha : a ≤ n) (hd : d < b) (hS : Scan b d n c f a w) (hW : W f n a = s) (hs : s < n) (hse : s ≤ e) (hen : e ≤ n)
    (ho : opB (f s) = true) (hP : P f n s 0 e) :
    Calls Try.prog 31 #[.pointer (some ⟨b, 0, none⟩)] w fun r w' => r = .returned (.slice (some ⟨d, s, none⟩) (e - s) (c - s)) ∧ Scan b d n c f e w' ∧ Below b w w' := by
  have HS : Hid _ := hS
  have HW : Hid (W f n a = s) := hW
  have HP : Hid (P f n s 0 e) := hP
  have g34 : (f s == 34) = false := beq_eq_false_iff_ne.2 (op_ne _ ho).1
  have htwo : (f s == 123) = true ∨ ((f s == 123) = false ∧ (f s == 91) = true) := by
    rcases op_two ho with h | h
    · exact Or.inl (by rw [h]; rfl)
    · exact Or.inr ⟨by rw [h]; rfl, by rw [h]; rfl⟩
  clear hS hW ho hP
  rcases htwo with g123 | ⟨g123, g91⟩
  all_goals
    go_enter Try.func31, Try.ntmps31
    go_wp2_with fail
    refine (space_any b d n c f a _ hn ha hd HS.out).mono ?_
    rintro r w1 ⟨rfl, hS1, hB1⟩
    rw [HW.out] at hS1
    have HS1 : Hid _ := hS1
    obtain ⟨s0, s1, s2, s3⟩ := hS1
    have hck := s3 s hs
    clear s3 HS HW
    go_wp2
    go_quiet (fail)
    go_wp2
    go_loopg [4] (n - s) (fun gk dep wr => ∃ k m : Nat, s ≤ k ∧ k ≤ n ∧ m ≤ k ∧ n - k ≤ gk ∧ dep = .int .i64 m ∧ Hid (Scan b d n c f k wr) ∧ Below b w wr ∧ Hid (P f n k m e))
    case atStart => exact ⟨s, 0, Nat.le_refl _, by omega, by omega, Nat.le_refl _, rfl, HS1.out.drewN _, below_drewN hB1 _, HP⟩
    case round =>
      as_aux_lemma =>
        obtain ⟨k, m, hsk, hkn, hmk, hgk, rfl, HSk, hwr, HPk⟩ := hrel
        clear s0 s1 s2 hck HS1 hB1 HP
        obtain ⟨s0, s1, s2, s3⟩ := HSk.out
        obtain ⟨hlt, hcase⟩ := P_inv HPk.out
        have hck := s3 k hlt
        clear s3 HPk g34 g123
        rcases hcase with ⟨h34, j, hV, hP⟩ | ⟨h34, ho, hP⟩ | ⟨h34, ho, hc, h1, he⟩ | ⟨h34, ho, hc, h2, hP⟩ | ⟨h34, ho, hc, hP⟩
        · have g34 : (f k == 34) = true := beq_iff_eq.2 h34
          have HV : Hid (V f n (k + 1) = (true, j)) := hV
          have hle := V_le f n n (k + 1) (by omega) (by omega)
          rw [hV] at hle
          simp only at hle
          have HPj : Hid (P f n j m e) := hP
          clear h34 hV hP
          go_wp2
          go_quiet (fail)
          go_wp2_with fail
          refine (string_any b d n c f k j _ hn hlt hd (HSk.out.drewN _) HV.out).mono ?_
          rintro r w2 ⟨rfl, hS2, hB2⟩
          have HS2 : Hid _ := hS2
          have hB : Below b w w2 := (below_drewN hwr _).trans hB2
          clear s0 s1 s2 hck hB2 hS2
          go_wp2
          go_roundg (n - j)
          case measure => omega
          case rel => exact ⟨j, m, by omega, by omega, by omega, by omega, rfl, HS2, hB, HPj⟩
        · have g34 : (f k == 34) = false := beq_eq_false_iff_ne.2 h34
          have HPj : Hid (P f n (k + 1) (m + 1) e) := hP
          have htwo : (f k == 123) = true ∨ ((f k == 123) = false ∧ (f k == 91) = true) := by
            rcases op_two ho with h | h
            · exact Or.inl (by rw [h]; rfl)
            · exact Or.inr ⟨by rw [h]; rfl, by rw [h]; rfl⟩
          clear h34 ho hP
          rcases htwo with k123 | ⟨k123, k91⟩
          all_goals
            go_wp2
            go_quiet (fail)
            go_wp2
            go_roundg (n - (k + 1))
            case measure => omega
            case rel => exact ⟨k + 1, m + 1, by omega, by omega, by omega, by omega, by go_num, ((HSk.out.drewN _).set hd _).eq (by omega), (below_drewN hwr _).setCell (p := ⟨b, 1, none⟩) (Nat.le_refl _) _, HPj⟩
        · have g34 : (f k == 34) = false := beq_eq_false_iff_ne.2 h34
          obtain ⟨k123, k91⟩ := op_not ho
          have htwo : (f k == 125) = true ∨ ((f k == 125) = false ∧ (f k == 93) = true) := by
            rcases cl_two hc with h | h
            · exact Or.inl (by rw [h]; rfl)
            · exact Or.inr ⟨by rw [h]; rfl, by rw [h]; rfl⟩
          subst h1 he
          clear h34 ho hc
          rcases htwo with k125 | ⟨k125, k93⟩
          all_goals
            go_wp2
            go_quiet (fail)
            go_wp2
            refine abs_world (fun W => Code.wp _ _ _ _ W) ((HSk.out.drewN _).set hd _) ((below_drewN hwr _).setCell (p := ⟨b, 1, none⟩) (Nat.le_refl _) _) ?_
            intro w2 hS2 hB2
            have HS2 : Hid _ := hS2
            clear s0 s1 s2 hck
            obtain ⟨s0, s1, s2, s3⟩ := hS2
            clear s3
            go_quiet (fail)
            go_wp2
            go_ret
            exact ⟨rfl, (HS2.out.drewN _).eq (by omega), below_drewN hB2 _⟩
        · have g34 : (f k == 34) = false := beq_eq_false_iff_ne.2 h34
          obtain ⟨k123, k91⟩ := op_not ho
          obtain ⟨m', rfl⟩ : ∃ m', m = m' + 2 := ⟨m - 2, by omega⟩
          have HPj : Hid (P f n (k + 1) (m' + 1) e) := hP
          have htwo : (f k == 125) = true ∨ ((f k == 125) = false ∧ (f k == 93) = true) := by
            rcases cl_two hc with h | h
            · exact Or.inl (by rw [h]; rfl)
            · exact Or.inr ⟨by rw [h]; rfl, by rw [h]; rfl⟩
          have hd0 : (((m' : Int) + 2 - 1) == 0) = false := beq_eq_false_iff_ne.2 (by omega)
          clear h34 ho hc hP
          rcases htwo with k125 | ⟨k125, k93⟩
          all_goals
            go_wp2
            go_quiet (fail)
            go_wp2
            go_roundg (n - (k + 1))
            case measure => omega
            case rel => exact ⟨k + 1, m' + 1, by omega, by omega, by omega, by omega, by go_num, ((HSk.out.drewN _).set hd _).eq (by omega), (below_drewN hwr _).setCell (p := ⟨b, 1, none⟩) (Nat.le_refl _) _, HPj⟩
        · have g34 : (f k == 34) = false := beq_eq_false_iff_ne.2 h34
          obtain ⟨k123, k91⟩ := op_not ho
          obtain ⟨k125, k93⟩ := cl_not hc
          have HPj : Hid (P f n (k + 1) m e) := hP
          clear h34 ho hc hP
          go_wp2
          go_quiet (fail)
          go_wp2
          go_roundg (n - (k + 1))
          case measure => omega
          case rel => exact ⟨k + 1, m, by omega, by omega, by omega, by omega, rfl, ((HSk.out.drewN _).set hd _).eq (by omega), (below_drewN hwr _).setCell (p := ⟨b, 1, none⟩) (Nat.le_refl _) _, HPj⟩

end Go.Proofs.Qxb6603037a.Walk
