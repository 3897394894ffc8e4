import Derived.Test.Qxb6603037aStrModel
import Derived.Deep.QuietTactic
import Derived.BigQuiet
set_option linter.unusedVariables false
namespace Go.Proofs.Qxb6603037a.Walk
open Go.RowKit
open Go.Proofs.Qxb6603037a.Str

/-- The scanner's block b: its data (n bytes in block d, told by f), and where it stands. -/
structure Scan (b d n c : Nat) (f : Nat → Int) (i : Int) (w : World) : Prop where
  data : w.cell? ⟨b, 0, none⟩ = some (.slice (some ⟨d, 0, none⟩) n c)
  pos : w.cell? ⟨b, 1, none⟩ = some (.int .i64 i)
  free : w.frozen? ⟨b, 1, none⟩ = false
  cells : ∀ j, j < n → w.cell? ⟨d, j, none⟩ = some (.int .u8 (f j))

theorem Scan.set {b d n c : Nat} {f : Nat → Int} {i : Int} {w : World} (h : Scan b d n c f i w) (hd : d < b) (i' : Int) : Scan b d n c f i' (w.setCell ⟨b, 1, none⟩ (.int .i64 i')) := by
  refine ⟨?_, World.cell?_setCell_same _ _ _ h.pos, ?_, fun j hj => ?_⟩
  · rw [World.cell?_setCell_other _ _ _ _ (by simp)]; exact h.data
  · rw [World.frozen?_setCell]; exact h.free
  · rw [World.cell?_setCell_other _ _ _ _ (by intro e; injection e with e1; omega)]; exact h.cells j hj

theorem Scan.drewN {b d n c : Nat} {f : Nat → Int} {i : Int} {w : World} (h : Scan b d n c f i w) (q : Nat) : Scan b d n c f i (w.drewN q) :=
  ⟨by simpa using h.data, by simpa using h.pos, by simpa using h.free, fun j hj => by simpa using h.cells j hj⟩

theorem Scan.drew {b d n c : Nat} {f : Nat → Int} {i : Int} {w : World} (h : Scan b d n c f i w) : Scan b d n c f i w.drew := ⟨h.data, h.pos, h.free, h.cells⟩

theorem Scan.eq {b d n c : Nat} {f : Nat → Int} {i i' : Int} {w : World} (h : Scan b d n c f i w) (e : i = i') : Scan b d n c f i' w := e ▸ h

/-- the measure of a scanner's loop: how far it is from the end -/
def left (b n : Nat) (w : World) : Nat := n - (intOf ((w.cell? ⟨b, 1, none⟩).getD undef)).toNat
theorem left_of {b d n c : Nat} {f : Nat → Int} {i : Int} {w : World} (h : Scan b d n c f i w) : left b n w = n - i.toNat := by
  unfold left
  rw [h.pos]
  rfl
theorem left_lt {b d n c : Nat} {f : Nat → Int} {i j : Int} {w w' : World} (h : Scan b d n c f i w) (h' : Scan b d n c f j w') (hi : 0 ≤ i) (hij : i < j) (hn : i < n) : left b n w' < left b n w := by
  rw [left_of h, left_of h']
  omega

theorem ends {b d n c : Nat} {f : Nat → Int} {i : Int} {w w' : World} {x ok : Bool} {m en : Nat} (h : (x, m) = (ok, en)) (hS : Scan b d n c f i w') (hi : i = (m : Int)) (hB : Below b w w') :
    Ending.returned (.bool x) = .returned (.bool ok) ∧ Scan b d n c f en w' ∧ Below b w w' := by
  simp only [Prod.mk.injEq] at h
  obtain ⟨rfl, rfl⟩ := h
  exact ⟨rfl, hS.eq hi, hB⟩

theorem sim34 {c : Int} (h : (c == 34) = true) : simB c = true := by rw [beq_iff_eq.1 h]; decide
theorem sim92 {c : Int} (h : (c == 92) = true) : simB c = true := by rw [beq_iff_eq.1 h]; decide
theorem sim47 {c : Int} (h : (c == 47) = true) : simB c = true := by rw [beq_iff_eq.1 h]; decide
theorem sim98 {c : Int} (h : (c == 98) = true) : simB c = true := by rw [beq_iff_eq.1 h]; decide
theorem sim102 {c : Int} (h : (c == 102) = true) : simB c = true := by rw [beq_iff_eq.1 h]; decide
theorem sim110 {c : Int} (h : (c == 110) = true) : simB c = true := by rw [beq_iff_eq.1 h]; decide
theorem sim114 {c : Int} (h : (c == 114) = true) : simB c = true := by rw [beq_iff_eq.1 h]; decide
theorem sim116 {c : Int} (h : (c == 116) = true) : simB c = true := by rw [beq_iff_eq.1 h]; decide
theorem sim_no {c : Int} (h1 : (c == 34) = false) (h2 : (c == 92) = false) (h3 : (c == 47) = false) (h4 : (c == 98) = false) (h5 : (c == 102) = false) (h6 : (c == 110) = false) (h7 : (c == 114) = false) (h8 : (c == 116) = false) : simB c = false := by
  simp only [beq_eq_false_iff_ne, ne_eq] at *
  unfold simB
  apply decide_eq_false
  omega

theorem hex_more {f : Nat → Int} {i m : Nat} (h : ∀ q, q < m → hexB (f (i + q)) = true) (hm : hexB (f (i + m)) = true) : ∀ q, q < m + 1 → hexB (f (i + q)) = true := by
  intro q hq
  by_cases e : q = m
  · subst e; exact hm
  · exact h q (by omega)
/-- The first digit that is none. -/
theorem H_stop (f : Nat → Int) (n u i l m : Nat) (hl : m < l) (hall : ∀ q, q < m → hexB (f (i + q)) = true) (hm : hexB (f (i + m)) = false) : H f n u l i = (false, u) := by
  by_cases hn : i + m ≤ n
  · obtain ⟨r, rfl⟩ : ∃ r, l = m + (r + 1) := ⟨l - m - 1, by omega⟩
    rw [H_run f n u i (r + 1) m hn hall, H_bad f n u r (i + m) hm]
  · exact H_short f n u l i (by omega) (by omega)

/-- The world as it stands, under a name of its own. -/
theorem abs_world {b d n c : Nat} {f : Nat → Int} {i : Int} {w w1 : World} (P : World → Prop) (hS : Scan b d n c f i w1) (hB : Below b w w1) (h : ∀ w2, Scan b d n c f i w2 → Below b w w2 → P w2) : P w1 := h w1 hS hB

set_option maxHeartbeats 4000000 in
set_option maxRecDepth 100000 in
theorem valid_core (b d n c : Nat) (f : Nat → Int) (a : Nat) (ok : Bool) (en : Nat) (w : World) (hn : n ≤ 1048576) (hnc : n ≤ c) (hcm : c ≤ 1048576) (ha : a < n) (hd : d < b) (hS : Scan b d n c f a w) (hF : V f n (a + 1) = (ok, en)) :
    Calls Try.prog 21 #[.pointer (some ⟨b, 0, none⟩)] w fun e w' => e = .returned (.bool ok) ∧ Scan b d n c f en w' ∧ Below b w w' := by
  have HF : Hid (V f n (a + 1) = (ok, en)) := hF
  have HS : Hid (Scan b d n c f (a + 1) (w.setCell ⟨b, 1, none⟩ (.int .i64 (a + 1)))) := hS.set hd _
  obtain ⟨s0, s1, s2, s3⟩ := hS
  clear hF s3
  go_enter Try.func21, Try.ntmps21
  go_wp2
  clear s0 s1 s2
  go_loopw [] (fun wr => ∃ k : Nat, k ≤ n ∧ Hid (Scan b d n c f k wr) ∧ Below b w wr ∧ Hid (V f n k = (ok, en))) (fun wr => left b n wr)
  case atStart => exact ⟨a + 1, by omega, HS.out.eq (by omega), (Below.refl b w).setCell (p := ⟨b, 1, none⟩) (Nat.le_refl _) _, HF⟩
  case round =>
    obtain ⟨k, hk, HSk, hwr, HV⟩ := hrel
    obtain ⟨s0, s1, s2, s3⟩ := HSk.out
    clear HS HF
    by_cases hlt : k < n
    · have hck := s3 k hlt
      clear s3
      go_wp2
      go_quiet (fail)
      go_wp2
      go_quiet (fail)
      go_wp2
      · have h : (f k == 34) = true := by assumption
        have h' : f k = 34 := by simpa using h
        go_ret
        exact ends ((V_quote f n k hlt h').symm.trans HV.out) ((HSk.out.drewN _).set hd _) (by omega) ((below_drewN hwr _).setCell (p := ⟨b, 1, none⟩) (Nat.le_refl _) _)
      · have h : f k < 32 := by assumption
        go_ret
        exact ends ((V_ctl f n k hlt h).symm.trans HV.out) (HSk.out.drewN _) rfl (below_drewN hwr _)
      · have h : (f k == 92) = true := by assumption
        have h' : f k = 92 := by simpa using h
        have HE : Hid (E f n (k + 1) = (ok, en)) := (V_esc f n k hlt h').symm.trans HV.out
        refine abs_world (fun W => Code.wp _ _ _ _ W) ((HSk.out.drewN _).set hd _) ((below_drewN hwr _).setCell (p := ⟨b, 1, none⟩) (Nat.le_refl _) _) ?_
        intro w1 hS1 hB1
        have HS1 : Hid _ := hS1
        obtain ⟨s0', s1', s2', s3'⟩ := hS1
        clear s0 s1 s2 hck h h'
        by_cases hlt1 : k + 1 < n
        · have hne : (((k : Int) + 1) == (n : Int)) = false := beq_eq_false_iff_ne.2 (by omega)
          have hck := s3' (k + 1) hlt1
          have HC : Hid _ := s3'
          clear s3'
          go_quiet (fail)
          go_wp2
          go_quiet (fail)
          go_wp2
          iterate 8
            (have hs : simB (f (k + 1)) = true := by
              first | exact sim34 (by assumption) | exact sim92 (by assumption) | exact sim47 (by assumption) | exact sim98 (by assumption) | exact sim102 (by assumption) | exact sim110 (by assumption) | exact sim114 (by assumption) | exact sim116 (by assumption)
             have R : Hid (V f n (k + 2) = (ok, en)) := (E_sim f n (k + 1) hlt1 hs).symm.trans HE.out
             go_roundw
             case rel => exact ⟨k + 2, by omega, ((HS1.out.drewN _).set hd _).eq (by omega), (below_drewN hB1 _).setCell (p := ⟨b, 1, none⟩) (Nat.le_refl _) _, R⟩
             case measure => exact left_lt HSk.out ((HS1.out.drewN _).set hd _) (by omega) (by omega) (by omega))
          · have hs : simB (f (k + 1)) = false := sim_no (by assumption) (by assumption) (by assumption) (by assumption) (by assumption) (by assumption) (by assumption) (by assumption)
            have hu : (f (k + 1) == 117) = true := by assumption
            have HH : Hid (H f n (k + 1) 4 (k + 2) = (ok, en)) := (E_u f n (k + 1) hlt1 hs (beq_iff_eq.1 hu)).symm.trans HE.out
            refine abs_world (fun W => Code.wp _ _ _ _ W) (HS1.out.drewN _) (below_drewN hB1 _) ?_
            intro w2 hS2 hB2
            clear s0' s1' s2' hck hs hu HS1 hB1 HC
            have HS2 : Hid _ := hS2
            obtain ⟨s0, s1, s2, s3⟩ := hS2
            have HC : Hid _ := s3
            clear s3
            by_cases hlt5 : k + 5 < n
            · go_quiet (fail)
              go_wp2
              go_quiet (fail)
              go_wp2
              go_loop [121] (fun j => ∃ m : Nat, m ≤ 4 ∧ j = .int .i64 m ∧ Hid (∀ q, q < m → hexB (f (k + 2 + q)) = true)) (fun j => 4 - (intOf j).toNat)
              case atStart => exact ⟨0, by omega, rfl, fun q hq => by omega⟩
              case round =>
                obtain ⟨m, hm, rfl, HQ⟩ := hrel
                by_cases hm4 : m < 4
                · have hcm : w2.cell? ⟨d, k + 1 + 1 + m, none⟩ = some (.int .u8 (f (k + 2 + m))) := HC.out (k + 2 + m) (by omega)
                  generalize hg : f (k + 2 + m) = x at hcm
                  have HG : Hid (f (k + 2 + m) = x) := hg
                  clear hg
                  go_wp2
                  · have hb : hexB x = false := by unfold hexB; apply decide_eq_false; omega
                    go_ret
                    exact ends ((H_stop f n (k + 1) (k + 2) 4 m (by omega) HQ.out (by rw [HG.out]; exact hb)).symm.trans HH.out) (HS2.out.drewN _) (by omega) (below_drewN hB2 _)
                  · exfalso
                    have q : ((!decide (x ≤ 57)) = false ∨ (!decide (x ≤ 102)) = false) ∨ (!decide (x ≤ 70)) = false := by assumption
                    simp at q
                    omega
                  · have hb : hexB x = true := by unfold hexB; apply decide_eq_true; omega
                    have HQ' : Hid (∀ q, q < m + 1 → hexB (f (k + 2 + q)) = true) := hex_more HQ.out (by rw [HG.out]; exact hb)
                    refine ⟨⟨_, _, _, ⟨m + 1, by omega, by go_num, HQ'⟩, rfl, rfl, rfl⟩, ?_⟩
                    simp [intOf]
                    omega
                  · have q : (!decide (x ≤ 57)) = true ∧ (!decide (x ≤ 70)) = true := by assumption
                    simp at q
                    have hb : hexB x = false := by unfold hexB; apply decide_eq_false; omega
                    go_ret
                    exact ends ((H_stop f n (k + 1) (k + 2) 4 m (by omega) HQ.out (by rw [HG.out]; exact hb)).symm.trans HH.out) (HS2.out.drewN _) (by omega) (below_drewN hB2 _)
                  · have q : (!decide (x ≤ 57)) = false ∨ (!decide (x ≤ 70)) = false := by assumption
                    simp at q
                    have hb : hexB x = true := by unfold hexB; apply decide_eq_true; omega
                    have HQ' : Hid (∀ q, q < m + 1 → hexB (f (k + 2 + q)) = true) := hex_more HQ.out (by rw [HG.out]; exact hb)
                    refine ⟨⟨_, _, _, ⟨m + 1, by omega, by go_num, HQ'⟩, rfl, rfl, rfl⟩, ?_⟩
                    simp [intOf]
                    omega
                  · have hb : hexB x = false := by unfold hexB; apply decide_eq_false; omega
                    go_ret
                    exact ends ((H_stop f n (k + 1) (k + 2) 4 m (by omega) HQ.out (by rw [HG.out]; exact hb)).symm.trans HH.out) (HS2.out.drewN _) (by omega) (below_drewN hB2 _)
                  · exfalso
                    have q : (!decide (x ≤ 57)) = false := by assumption
                    simp at q
                    omega
                  · have hb : hexB x = true := by unfold hexB; apply decide_eq_true; omega
                    have HQ' : Hid (∀ q, q < m + 1 → hexB (f (k + 2 + q)) = true) := hex_more HQ.out (by rw [HG.out]; exact hb)
                    refine ⟨⟨_, _, _, ⟨m + 1, by omega, by go_num, HQ'⟩, rfl, rfl, rfl⟩, ?_⟩
                    simp [intOf]
                    omega
                  · have hb : hexB x = false := by unfold hexB; apply decide_eq_false; omega
                    go_ret
                    exact ends ((H_stop f n (k + 1) (k + 2) 4 m (by omega) HQ.out (by rw [HG.out]; exact hb)).symm.trans HH.out) (HS2.out.drewN _) (by omega) (below_drewN hB2 _)
                · have e : m = 4 := by omega
                  subst e
                  have R : Hid (V f n (k + 6) = (ok, en)) := (H_run f n (k + 1) (k + 2) 0 4 (by omega) HQ.out).symm.trans HH.out
                  clear hm hm4
                  go_wp2
                  go_roundw
                  case rel => exact ⟨k + 6, by omega, (((HS2.out.drewN _).set hd _).set hd _).eq (by omega), ((below_drewN hB2 _).setCell (p := ⟨b, 1, none⟩) (Nat.le_refl _) _).setCell (p := ⟨b, 1, none⟩) (Nat.le_refl _) _, R⟩
                  case measure => exact left_lt HSk.out (((HS2.out.drewN _).set hd _).set hd _) (by omega) (by omega) (by omega)
            · go_quiet (fail)
              go_wp2
              go_ret
              exact ends ((H_short f n (k + 1) 4 (k + 2) (by omega) (by omega)).symm.trans HH.out) (HS2.out.drewN _) (by omega) (below_drewN hB2 _)
          · have hs : simB (f (k + 1)) = false := sim_no (by assumption) (by assumption) (by assumption) (by assumption) (by assumption) (by assumption) (by assumption) (by assumption)
            have hu : (f (k + 1) == 117) = false := by assumption
            go_ret
            exact ends ((E_bad f n (k + 1) hlt1 hs (beq_eq_false_iff_ne.1 hu)).symm.trans HE.out) (HS1.out.drewN _) (by omega) (below_drewN hB1 _)
        · have hne : (((k : Int) + 1) == (n : Int)) = true := beq_iff_eq.2 (by omega)
          clear s3'
          go_quiet (fail)
          go_wp2
          go_ret
          exact ends ((E_out f n (k + 1) (by omega)).symm.trans HE.out) (HS1.out.drewN _) (by omega) (below_drewN hB1 _)
      · have h1 : (f k == 34) = false := by assumption
        have h2 : 32 ≤ f k := by assumption
        have h3 : (f k == 92) = false := by assumption
        have R : Hid (V f n (k + 1) = (ok, en)) := (V_step f n k hlt (by simpa using h1) h2 (by simpa using h3)).symm.trans HV.out
        go_roundw
        case rel => exact ⟨k + 1, by omega, ((HSk.out.drewN _).set hd _).eq (by omega), (below_drewN hwr _).setCell (p := ⟨b, 1, none⟩) (Nat.le_refl _) _, R⟩
        case measure => exact left_lt HSk.out ((HSk.out.drewN _).set hd _) (by omega) (by omega) (by omega)
    · clear s3
      go_wp2
      go_quiet (fail)
      go_wp2
      go_ret
      exact ends ((V_out f n k (by omega)).symm.trans HV.out) (HSk.out.drewN _) (by omega) (below_drewN hwr _)

end Go.Proofs.Qxb6603037a.Walk
