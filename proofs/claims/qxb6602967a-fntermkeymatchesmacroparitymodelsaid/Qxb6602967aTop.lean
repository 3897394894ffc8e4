import Derived.Test.Qxb6602967aProg
import Derived.Test.Qxb6602967aPlain
import Derived.WalkKit
import Derived.WalkSpells
import Derived.WalkLawsBesides
namespace Go.Proofs.Qxb6602967a.Top
open Go.RowKit
open Go.Proofs.Qxb6602967a.Plain

/-- The byte at an index, as a number; 0 outside. -/
def byt (s : ByteArray) (i : Nat) : Int := ((s.data.toList.getD i 0).toNat : Int)

theorem byt_at (s : ByteArray) (k : Nat) (h : k < s.size) : byt s k = ((s[k]'h).toNat : Int) := by
  unfold byt
  have h' : k < s.data.toList.length := by simpa using h
  have e : s.data.toList.getD k 0 = s[k]'h := by
    rw [List.getD_eq_getElem?_getD, List.getElem?_eq_getElem h']
    rfl
  rw [e]

theorem ret_bool {a b : Bool} (h : a = b) : Ending.returned (.bool a) = .returned (.bool b) := by rw [h]

theorem letter_any (n : Int) (w : World) : Calls Try.prog 34 #[.int .u8 n] w fun e w' => e = .returned (.bool (letB n)) ∧ w' = w := by
  go_enter Try.func34, Try.ntmps34
  go_wp2
  all_goals
    go_ret
    exact ⟨ret_bool (by rw [Bool.eq_iff_iff]; simp [letB]; omega), rfl⟩

theorem alpha_any (n : Int) (w : World) : Calls Try.prog 30 #[.int .u8 n] w fun e w' => e = .returned (.bool (letB n)) ∧ w' = w := by
  go_enter Try.func30, Try.ntmps30
  go_wp2
  all_goals
    go_ret
    exact ⟨ret_bool (by rw [Bool.eq_iff_iff]; simp [letB]; omega), rfl⟩

theorem digit_any (n : Int) (w : World) : Calls Try.prog 35 #[.int .u8 n] w fun e w' => e = .returned (.bool (digB n)) ∧ w' = w := by
  go_enter Try.func35, Try.ntmps35
  go_wp2
  all_goals
    go_ret
    exact ⟨ret_bool (by rw [Bool.eq_iff_iff]; simp [digB]; omega), rfl⟩

theorem alnum_any (n : Int) (w : World) : Calls Try.prog 29 #[.int .u8 n] w fun e w' => e = .returned (.bool (alnB n)) ∧ w' = w := by
  go_enter Try.func29, Try.ntmps29
  go_wp2_with (go_at_call 30; refine (alpha_any _ _).mono ?_; rintro e w' ⟨rfl, rfl⟩)
  all_goals
    go_ret
    refine ⟨ret_bool ?_, rfl⟩
    rw [Bool.eq_iff_iff]
    simp [alnB, digB, *]
  all_goals omega

theorem any_step (p : Int → Bool) (f : Nat → Int) (k : Nat) : anyTo p f (k + 1) = (anyTo p f k || p (f k)) := rfl
theorem all_step (p : Int → Bool) (f : Nat → Int) (k : Nat) : allTo p f (k + 1) = (allTo p f k && p (f k)) := rfl

theorem top_empty (f : Nat → Int) (n : Nat) (h : n = 0) : false = topB f n := by subst h; rfl
theorem top_d0 (f : Nat → Int) (n : Nat) (h : f 0 = 45) : false = topB f n := by simp [topB, dashB, h]
theorem top_dl (f : Nat → Int) (n : Nat) (h : f (n - 1) = 45) : false = topB f n := by simp [topB, dashB, h]
theorem top_bad (f : Nat → Int) (n k : Nat) (hk : k < n) (h1 : letB (f k) = false) (h2 : ¬ f k = 45) (h3 : digB (f k) = false) : false = topB f n := by
  have : allTo okB f n = false := allTo_false okB f n k hk (by simp [okB, h1, h3, dashB, h2])
  simp [topB, this]
theorem top_good (f : Nat → Int) (n : Nat) (h0 : n ≠ 0) (h1 : ¬ f 0 = 45) (h2 : ¬ f (n - 1) = 45) (h3 : allTo okB f n = true) : anyTo nnB f n = topB f n := by
  simp [topB, h0, h1, h2, h3, dashB]

theorem len_toList (s : ByteArray) : s.toList.length = s.size := by
  rw [ByteArray.toList_eq]
  simp
theorem toList_nil (s : ByteArray) (h : s.size = 0) : s.toList = [] := by
  apply List.eq_nil_of_length_eq_zero
  rw [len_toList]; exact h
theorem toList_some (s : ByteArray) (h : ¬ s.size = 0) : s.toList.isEmpty = false := by
  cases e : s.toList with
  | nil => exfalso; apply h; rw [← len_toList, e]; rfl
  | cons a l => rfl

theorem st_yes (f : Nat → Int) (k : Nat) (c : Int) (hc : f k = c) (ha : allTo okB f k = true) (h : letB c = true ∨ (c == 45) = true) : true = anyTo nnB f (k + 1) ∧ allTo okB f (k + 1) = true := by
  subst hc
  rw [any_step, all_step, ha]
  rcases h with h | h
  · simp [nnB, okB, h]
  · have h' : f k = 45 := by simpa using h
    simp [nnB, okB, dashB, h']
theorem st_dig (f : Nat → Int) (k : Nat) (c : Int) (hc : f k = c) (ha : allTo okB f k = true) (h1 : ¬ letB c = true) (h2 : (c == 45) = false) (h : (!digB c) = false) : anyTo nnB f k = anyTo nnB f (k + 1) ∧ allTo okB f (k + 1) = true := by
  subst hc
  rw [any_step, all_step, ha]
  have h' : ¬ f k = 45 := by simpa using h2
  have h3 : digB (f k) = true := by simpa using h
  simp [nnB, okB, dashB, h', h1, h3]
theorem st_no (f : Nat → Int) (n k : Nat) (c : Int) (hc : f k = c) (hk : k < n) (h1 : ¬ letB c = true) (h2 : (c == 45) = false) (h : (!digB c) = true) : false = topB f n := by
  subst hc
  exact top_bad f n k hk (by simpa using h1) (by simpa using h2) (by simpa using h)
theorem val_bool {a b : Bool} (h : a = b) : Value.bool a = Value.bool b := by rw [h]

/-- What 'isTopLabel' computes. -/
theorem isTop_any (s : ByteArray) (w : World) (hs : s.size ≤ 1048576) : Calls Try.prog 28 #[.string s] w fun e w' => e = .returned (.bool (topB (byt s) s.size)) ∧ w' = w := by
  by_cases h0 : s.size = 0
  · have hE : s.toList = [] := toList_nil s h0
    go_enter Try.func28, Try.ntmps28
    go_wp2
    go_ret
    exact ⟨ret_bool (top_empty _ _ h0), rfl⟩
  · have hE : s.toList.isEmpty = false := toList_some s h0
    have hp : 0 < s.size := by omega
    by_cases hd0 : byt s 0 = 45
    · have e0 : (((s[0]'hp).toNat : Int) == 45) = true := by rw [← byt_at]; simp [hd0]
      have H0 : Hid (byt s 0 = 45) := hd0
      clear hd0 h0
      go_enter Try.func28, Try.ntmps28
      go_wp2
      go_ret
      exact ⟨ret_bool (top_d0 _ _ H0.out), rfl⟩
    · have e0 : (((s[0]'hp).toNat : Int) == 45) = false := by rw [← byt_at]; simp [hd0]
      by_cases hdl : byt s (s.size - 1) = 45
      · have el : (((s[s.size - 1]'(by omega)).toNat : Int) == 45) = true := by rw [← byt_at]; simp [hdl]
        have H0 : Hid (byt s (s.size - 1) = 45) := hdl
        clear hdl h0 hd0
        go_enter Try.func28, Try.ntmps28
        go_wp2
        go_ret
        exact ⟨ret_bool (top_dl _ _ H0.out), rfl⟩
      · have el : (((s[s.size - 1]'(by omega)).toNat : Int) == 45) = false := by rw [← byt_at]; simp [hdl]
        have H0 : Hid (¬ byt s 0 = 45) := hd0
        have HL : Hid (¬ byt s (s.size - 1) = 45) := hdl
        clear hdl h0 hd0
        go_enter Try.func28, Try.ntmps28
        go_wp2
        go_loop [3, 4] (fun t i => ∃ k : Nat, k ≤ s.size ∧ i = .int .i64 k ∧ t = .bool (anyTo nnB (byt s) k) ∧ Hid (allTo okB (byt s) k = true)) (fun _ i => s.size - (intOf i).toNat)
        case atStart => exact ⟨0, Nat.zero_le _, rfl, rfl, rfl⟩
        case round =>
          obtain ⟨k, hk, rfl, rfl, hall⟩ := hrel
          by_cases hlt : k < s.size
          · have HB : Hid (byt s k = ((s[k]'hlt).toNat : Int)) := byt_at s k hlt
            go_wp2_with (first
              | (go_at_call 34; refine (letter_any _ _).mono ?_; rintro e w' ⟨rfl, rfl⟩)
              | (go_at_call 35; refine (digit_any _ _).mono ?_; rintro e w' ⟨rfl, rfl⟩))
            · have R := st_yes _ _ _ HB.out hall.out (Or.inl (by assumption))
              go_round
              case rel => exact ⟨k + 1, by omega, by go_num, val_bool R.1, R.2⟩
              case measure => simp [intOf]; omega
            · have R := st_yes _ _ _ HB.out hall.out (Or.inr (by assumption))
              go_round
              case rel => exact ⟨k + 1, by omega, by go_num, val_bool R.1, R.2⟩
              case measure => simp [intOf]; omega
            · have R := st_no _ s.size _ _ HB.out hlt (by assumption) (by assumption) (by assumption)
              go_ret
              exact ⟨ret_bool R, rfl⟩
            · have R := st_dig _ _ _ HB.out hall.out (by assumption) (by assumption) (by assumption)
              go_round
              case rel => exact ⟨k + 1, by omega, by go_num, val_bool R.1, R.2⟩
              case measure => simp [intOf]; omega
          · go_wp2
            go_ret
            have e : k = s.size := by omega
            subst e
            exact ⟨ret_bool (top_good _ _ (by omega) H0.out HL.out hall.out), rfl⟩

end Go.Proofs.Qxb6602967a.Top
