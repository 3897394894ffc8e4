import Derived.Test.Qxb6603037aParse
set_option linter.unusedVariables false
namespace Go.Proofs.Qxb6603037a.Walk
open Go.RowKit
open Go.Proofs.Qxb6603037a.Str (V V_le)
open Go.Proofs.Qxb6603037a.Num (num)
open Go.Proofs.Qxb6603037a.Val

/-- The byte at an index, as a number; 0 outside. -/
def byt (s : ByteArray) (i : Nat) : Int := ((s.data.toList.getD i 0).toNat : Int)
theorem byt_at (s : ByteArray) (k : Nat) (h : k < s.size) : byt s k = ((s[k]'h).toNat : Int) := by
  unfold byt
  have h' : k < s.data.toList.length := by simpa using h
  have e : s.data.toList.getD k 0 = s[k]'h := by
    rw [List.getD_eq_getElem?_getD, List.getElem?_eq_getElem h']
    rfl
  rw [e]

theorem word_more {f : Nat → Int} {s : ByteArray} {k m : Nat} (h : ∀ t, t < m → f (k + t) = byt s t) (hm : f (k + m) = byt s m) : ∀ t, t < m + 1 → f (k + t) = byt s t := by
  intro t ht
  by_cases e : t = m
  · subst e; exact hm
  · exact h t (by omega)

set_option maxHeartbeats 1000000 in
theorem word_any (d n c : Nat) (f : Nat → Int) (k : Nat) (s : ByteArray) (w : World) (hn : n ≤ 1048576) (hk : k < n) (hs : s.size ≤ 16) (hc : ∀ j, j < n → w.cell? ⟨d, j, none⟩ = some (.int .u8 (f j))) :
    Calls Try.prog 33 #[.slice (some ⟨d, 0, none⟩) n c, .int .i64 k, .string s] w fun e w' => ∃ r : Int, e = .returned (.int .i64 r) ∧ (∃ q, w' = w.drewN q) ∧ (r = -1 ∨ (r = ((k + s.size : Nat) : Int) ∧ k + s.size ≤ n ∧ ∀ t, t < s.size → f (k + t) = byt s t)) := by
  have HC : Hid _ := hc
  clear hc
  by_cases hfit : k + s.size ≤ n
  · go_enter Try.func33, Try.ntmps33
    go_wp2
    go_loopw [7] (fun j wr => ∃ m : Nat, m ≤ s.size ∧ j = .int .i64 m ∧ (∃ q, wr = w.drewN q) ∧ Hid (∀ t, t < m → f (k + t) = byt s t)) (fun j _ => s.size - (intOf j).toNat)
    case atStart => exact ⟨0, Nat.zero_le _, rfl, ⟨0, rfl⟩, fun t ht => by omega⟩
    case round =>
      obtain ⟨m, hm, rfl, ⟨q, rfl⟩, HQ⟩ := hrel
      by_cases hlt : m < s.size
      · have hck := HC.out (k + m) (by omega)
        have HB : Hid (byt s m = ((s[m]'hlt).toNat : Int)) := byt_at s m hlt
        have hlt1 : (m : Int) < (s.size : Int) := by omega
        have hlt2 : (k : Int) + (m : Int) < (n : Int) := by omega
        go_wp2
        go_quiet (fail)
        go_wp2
        · go_ret
          exact ⟨_, rfl, ⟨_, by rw [World.drewN_drewN]⟩, Or.inl rfl⟩
        · have h : (f (k + m) != ((s[m]'hlt).toNat : Int)) = false := by assumption
          have HQ' : Hid (∀ t, t < m + 1 → f (k + t) = byt s t) := word_more HQ.out (by rw [HB.out]; simpa using h)
          go_roundw
          case rel => exact ⟨m + 1, by omega, by go_num, ⟨_, rfl⟩, HQ'⟩
          case measure => simp [intOf]; omega
      · have e : m = s.size := by omega
        subst e
        go_wp2
        go_ret
        exact ⟨_, rfl, ⟨q, rfl⟩, Or.inr ⟨by omega, hfit, HQ.out⟩⟩
  · go_enter Try.func33, Try.ntmps33
    go_wp2
    go_ret
    exact ⟨_, rfl, ⟨0, rfl⟩, Or.inl rfl⟩

set_option maxHeartbeats 1000000 in
theorem key_any (d n c : Nat) (f : Nat → Int) (x : Int) (k : Nat) (hx : x = (k : Int)) (w : World) (hn : n ≤ 1048576) (hk : k ≤ n) (hc : ∀ j, j < n → w.cell? ⟨d, j, none⟩ = some (.int .u8 (f j))) :
    Calls Try.prog 29 #[.slice (some ⟨d, 0, none⟩) n c, .int .i64 x] w fun e w' => w' = w ∧ ∃ r : Int, e = .returned (.int .i64 r) ∧ (r = -1 ∨ ∃ m : Nat, r = (m : Int) ∧ k < m ∧ Skips f n k m) := by
  subst hx
  by_cases hlt : k < n
  · by_cases h34 : f k = 34
    · have hck := hc k hlt
      have g : (f k != 34) = false := by simp [h34]
      obtain ⟨ok, en, hF⟩ : ∃ ok en, V f n (k + 1) = (ok, en) := ⟨_, _, rfl⟩
      have hle := V_le f n n (k + 1) (by omega) (by omega)
      rw [hF] at hle
      simp only at hle
      have HC : Hid _ := hc
      have HF : Hid (V f n (k + 1) = (ok, en)) := hF
      have H34 : Hid (f k = 34) := h34
      clear hc hF h34
      cases ok with
      | false =>
        go_enter Try.func29, Try.ntmps29
        go_wp2_with (go_at_call 10; refine (model_core d n c f k false en _ hn hlt HC.out HF.out).mono ?_; rintro e w' ⟨rfl, rfl⟩)
        go_ret
        exact ⟨rfl, _, rfl, Or.inl rfl⟩
      | true =>
        have S1 : Hid (Skips f n k en) := skips_str hlt H34.out HF.out (by omega) hle.2
        have hW := W_le f n en hle.2
        go_enter Try.func29, Try.ntmps29
        go_wp2_with (first | (go_at_call 10; refine (model_core d n c f k true en _ hn hlt HC.out HF.out).mono ?_; rintro e w' ⟨rfl, rfl⟩) | (go_at_call 15; fail))
        refine (skipws_any d n c f _ en rfl _ hn hle.2 HC.out).mono ?_
        rintro e w1 ⟨rfl, rfl⟩
        have S2 : Hid (Skips f n k (W f n en)) := S1.out.trans (skips_ws hle.2)
        generalize W f n en = j at *
        by_cases hj : j < n
        · by_cases h58 : f j = 58
          · have hcj := HC.out j hj
            have g2 : (f j != 58) = false := by simp [h58]
            have S3 : Hid (Skips f n k (j + 1)) := S2.out.trans (skips_one hj (by rw [h58]; exact colon_pl))
            have hW2 := W_le f n (j + 1) (by omega)
            clear h58
            go_wp2_with fail
            refine (skipws_any d n c f _ (j + 1) (by omega) _ hn (by omega) HC.out).mono ?_
            rintro e w2 ⟨rfl, rfl⟩
            have S4 : Hid (Skips f n k (W f n (j + 1))) := S3.out.trans (skips_ws (by omega))
            generalize W f n (j + 1) = m at *
            go_wp2
            go_ret
            exact ⟨rfl, _, rfl, Or.inr ⟨m, rfl, by omega, S4.out⟩⟩
          · have hcj := HC.out j hj
            have g2 : (f j != 58) = true := by simp [h58]
            clear h58
            go_wp2
            go_ret
            exact ⟨rfl, _, rfl, Or.inl rfl⟩
        · go_wp2
          go_ret
          exact ⟨rfl, _, rfl, Or.inl rfl⟩
    · have hck := hc k hlt
      have g : (f k != 34) = true := by simp [h34]
      clear hc h34
      go_enter Try.func29, Try.ntmps29
      go_wp2
      go_ret
      exact ⟨rfl, _, rfl, Or.inl rfl⟩
  · clear hc
    go_enter Try.func29, Try.ntmps29
    go_wp2
    go_ret
    exact ⟨rfl, _, rfl, Or.inl rfl⟩

theorem scal_word {f : Nat → Int} {n k : Nat} {s : ByteArray} (hk : k + s.size ≤ n) (h34 : f k ≠ 34) (ho : opB (f k) = false) (hl : ∀ t, t < s.size → litB (byt s t) = true) (h : ∀ t, t < s.size → f (k + t) = byt s t) : Scal f n k (k + s.size) := by
  refine ⟨by omega, hk, Or.inr ⟨h34, ho, fun j h1 h2 => ?_⟩⟩
  obtain ⟨t, rfl⟩ : ∃ t, j = k + t := ⟨j - k, by omega⟩
  rw [h t (by omega)]
  exact hl t (by omega)
theorem lit_true : ∀ t, t < (⟨#[116, 114, 117, 101]⟩ : ByteArray).size → litB (byt ⟨#[116, 114, 117, 101]⟩ t) = true := by decide
theorem lit_false : ∀ t, t < (⟨#[102, 97, 108, 115, 101]⟩ : ByteArray).size → litB (byt ⟨#[102, 97, 108, 115, 101]⟩ t) = true := by decide
theorem lit_null : ∀ t, t < (⟨#[110, 117, 108, 108]⟩ : ByteArray).size → litB (byt ⟨#[110, 117, 108, 108]⟩ t) = true := by decide

def ScalPost (f : Nat → Int) (n k : Nat) (w : World) (e : Ending) (w' : World) : Prop :=
  ∃ r : Int, e = .returned (.int .i64 r) ∧ (∃ q, w' = w.drewN q) ∧ (r = -1 ∨ ∃ m : Nat, r = (m : Int) ∧ Scal f n k m)

set_option maxHeartbeats 1000000 in
theorem scalar_any (d n c : Nat) (f : Nat → Int) (k : Nat) (w : World) (hn : n ≤ 1048576) (hk : k < n) (ho : opB (f k) = false) (hc : ∀ j, j < n → w.cell? ⟨d, j, none⟩ = some (.int .u8 (f j))) :
    Calls Try.prog 30 #[.slice (some ⟨d, 0, none⟩) n c, .int .i64 k] w fun e w' => ScalPost f n k w e w' := by
  have hck := hc k hk
  have HC : Hid _ := hc
  have HO : Hid (opB (f k) = false) := ho
  clear hc ho
  by_cases h34 : f k = 34
  · have g : (f k == 34) = true := beq_iff_eq.2 h34
    obtain ⟨ok, en, hF⟩ : ∃ ok en, V f n (k + 1) = (ok, en) := ⟨_, _, rfl⟩
    have HF : Hid (V f n (k + 1) = (ok, en)) := hF
    have H34 : Hid (f k = 34) := h34
    clear hF h34
    cases ok with
    | false =>
      go_enter Try.func30, Try.ntmps30
      go_wp2_with (go_at_call 10; refine (model_core d n c f k false en _ hn hk HC.out HF.out).mono ?_; rintro e w' ⟨rfl, rfl⟩)
      go_ret
      exact ⟨_, rfl, ⟨0, rfl⟩, Or.inl rfl⟩
    | true =>
      go_enter Try.func30, Try.ntmps30
      go_wp2_with (go_at_call 10; refine (model_core d n c f k true en _ hn hk HC.out HF.out).mono ?_; rintro e w' ⟨rfl, rfl⟩)
      go_ret
      exact ⟨_, rfl, ⟨0, rfl⟩, Or.inr ⟨en, rfl, scal_str f n k en hk H34.out HF.out⟩⟩
  · have g34 : (f k == 34) = false := beq_eq_false_iff_ne.2 h34
    have H34 : Hid (f k ≠ 34) := h34
    clear h34
    by_cases h116 : f k = 116
    · have g : (f k == 116) = true := beq_iff_eq.2 h116
      clear h116
      go_enter Try.func30, Try.ntmps30
      go_wp2_with fail
      refine (word_any d n c f k _ _ hn hk (by decide) HC.out).mono ?_
      rintro e w1 ⟨r, rfl, hq, hr⟩
      have HR : Hid _ := hr
      have HQ : Hid _ := hq
      clear hr hq
      go_wp2
      go_ret
      refine ⟨r, rfl, HQ.out, ?_⟩
      rcases HR.out with h | ⟨h1, h2, h3⟩
      · exact Or.inl h
      · exact Or.inr ⟨_, h1, scal_word h2 H34.out HO.out lit_true h3⟩
    · have g116 : (f k == 116) = false := beq_eq_false_iff_ne.2 h116
      clear h116
      by_cases h102 : f k = 102
      · have g : (f k == 102) = true := beq_iff_eq.2 h102
        clear h102
        go_enter Try.func30, Try.ntmps30
        go_wp2_with fail
        refine (word_any d n c f k _ _ hn hk (by decide) HC.out).mono ?_
        rintro e w1 ⟨r, rfl, hq, hr⟩
        have HR : Hid _ := hr
        have HQ : Hid _ := hq
        clear hr hq
        go_wp2
        go_ret
        refine ⟨r, rfl, HQ.out, ?_⟩
        rcases HR.out with h | ⟨h1, h2, h3⟩
        · exact Or.inl h
        · exact Or.inr ⟨_, h1, scal_word h2 H34.out HO.out lit_false h3⟩
      · have g102 : (f k == 102) = false := beq_eq_false_iff_ne.2 h102
        clear h102
        by_cases h110 : f k = 110
        · have g : (f k == 110) = true := beq_iff_eq.2 h110
          clear h110
          go_enter Try.func30, Try.ntmps30
          go_wp2_with fail
          refine (word_any d n c f k _ _ hn hk (by decide) HC.out).mono ?_
          rintro e w1 ⟨r, rfl, hq, hr⟩
          have HR : Hid _ := hr
          have HQ : Hid _ := hq
          clear hr hq
          go_wp2
          go_ret
          refine ⟨r, rfl, HQ.out, ?_⟩
          rcases HR.out with h | ⟨h1, h2, h3⟩
          · exact Or.inl h
          · exact Or.inr ⟨_, h1, scal_word h2 H34.out HO.out lit_null h3⟩
        · have g110 : (f k == 110) = false := beq_eq_false_iff_ne.2 h110
          clear h110
          have hS := scal_num f n k hk H34.out HO.out
          obtain ⟨ok, en, hF⟩ : ∃ ok en, num f n k = (ok, en) := ⟨_, _, rfl⟩
          rw [hF] at hS
          have HS : Hid (Scal f n k en) := hS
          have HF : Hid (Num.A f n 0 k = (ok, en)) := (Num.A_num f n k hk).trans hF
          clear hF hS
          go_enter Try.func30, Try.ntmps30
          go_wp2_with (go_at_call 13; refine (modelN_core d n c f k ok en _ hn hk HC.out HF.out).mono ?_; rintro e w' ⟨rfl, rfl⟩)
          all_goals
            go_ret
            first
              | exact ⟨_, rfl, ⟨0, rfl⟩, Or.inl rfl⟩
              | exact ⟨_, rfl, ⟨0, rfl⟩, Or.inr ⟨en, rfl, HS.out⟩⟩

end Go.Proofs.Qxb6603037a.Walk
