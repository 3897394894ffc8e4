import Derived.Test.Qxb6603037aScalar
import Derived.Deep.LoopGhost
import Derived.Deep.CutRange
import Derived.Deep.CutBlock
set_option linter.unusedVariables false
namespace Go.Proofs.Qxb6603037a.Walk
open Go.RowKit
open Go.Proofs.Qxb6603037a.Val

/-- The parser's stack: m bytes in a row of the call's own, at block g. -/
def Stk (B : Nat) (w : World) (g cap m : Nat) : Prop := ∃ st : List Int, st.length = m ∧ w.ownsRow B 5 1 (.slice (some ⟨g, 0, none⟩) m cap) m (st.map (Value.int .u8))

theorem stk_top {B : Nat} {w : World} {g cap m : Nat} (h : Stk B w g cap (m + 1)) : ∃ x : Int, w.cell? ⟨g, m, none⟩ = some (.int .u8 x) := by
  obtain ⟨st, hl, hown⟩ := h
  obtain ⟨_, h2⟩ := hown
  rcases h2 with ⟨h0, _⟩ | ⟨g', cap', cur, hv, hg, hh, hn, hcap, hsz, htake⟩
  · cases h0
  · cases hv
    refine ⟨st[m]'(by omega), ?_⟩
    have hm : (cur.toList.take ((m + 1) * 1))[m]? = (st.map (Value.int .u8))[m]? := by rw [htake]
    rw [List.getElem?_take_of_lt (by omega), List.getElem?_map, List.getElem?_eq_getElem (show m < st.length by omega)] at hm
    simp only [World.cell?, hh]
    simpa using hm

theorem stk_cap {B : Nat} {w : World} {g cap m : Nat} (h : Stk B w g cap m) : m ≤ cap := by
  obtain ⟨st, hl, hown⟩ := h
  obtain ⟨_, h2⟩ := hown
  rcases h2 with ⟨h0, _⟩ | ⟨g', cap', cur, hv, hg, hh, hn, hcap, hsz, htake⟩
  · cases h0
  · cases hv; exact hn

theorem stk_pop {B : Nat} {w : World} {g cap m : Nat} (h : Stk B w g cap (m + 1)) : Stk B w g cap m := by
  obtain ⟨st, hl, hown⟩ := h
  refine ⟨st.take m, by simp; omega, ?_⟩
  have e : st.map (Value.int .u8) = (st.take m).map (Value.int .u8) ++ (st.drop m).map (Value.int .u8) := by
    rw [← List.map_append, List.take_append_drop]
  rw [e] at hown
  exact ownsRow_pop (by simp; omega) hown

theorem stk_push {B : Nat} {w : World} {v : Value} {m : Nat} {st : List Int} {c : Int} (hl : st.length = m) (h : w.ownsRow B 5 1 v (m + 1) (st.map (Value.int .u8) ++ [.int .u8 c])) :
    ∃ g cap, v = .slice (some ⟨g, 0, none⟩) (m + 1) cap ∧ Stk B w g cap (m + 1) := by
  have h2 := h.2
  rcases h2 with ⟨_, h0⟩ | ⟨g, cap, cur, hv, _⟩
  · omega
  · refine ⟨g, cap, hv, st ++ [c], by simp; omega, ?_⟩
    rw [← hv]
    simpa using h

theorem stk_new (w : World) (cs : Array Value) (hcs : cs.size = 16) : Stk w.heap.size (w.alloc (.cells cs 5)) w.heap.size 16 0 := by
  refine ⟨[], rfl, rfl, Or.inr ⟨w.heap.size, 16, cs, rfl, Nat.le_refl _, (MapKept.heap_alloc w _).1, by omega, by unfold maxLen; omega, by omega, by simp⟩⟩

/-- What 'parseValue' gives. -/
def ParsePost (f : Nat → Int) (n s : Nat) (w : World) (e : Ending) (w' : World) : Prop :=
  ∃ r : Int, e = .returned (.int .i64 r) ∧ Below w.heap.size w w' ∧ (r = -1 ∨ ∃ m : Nat, r = (m : Int) ∧ Done f n s m)

theorem info5' : ∀ w, (Instr.makeSlice 22 (.int .i64 0) (.int .i64 16)).run Try.prog w = .ok (.slice (some ⟨w.heap.size, 0, none⟩) 0 16) (w.alloc (.cells (madeCells #[.int .u8 0] 16) 5)) := by
  intro w
  obtain ⟨i, hi, hz⟩ := Option.map_eq_some_iff.1 info5
  simp only [Prod.mk.injEq] at hz
  have hr := run_make (P := Try.prog) w 22 5 i (.int .u8 0) Try.underlying22 hi hz.1 .i64 .i64 0 16 (by omega) (by omega) (by rw [hz.2.2]; omega) (by omega)
  rw [hz.2.1] at hr
  exact hr

theorem head_skip {f : Nat → Int} {n s j j2 dep : Nat} (h : Head f n s j (dep + 1)) (hs : Skips f n j j2) : Head f n s j2 (dep + 1) := by
  have h1 := hs.1
  rcases h with ⟨h0, _⟩ | ⟨hd, a, b, c, hP⟩
  · omega
  · exact Or.inr ⟨hd, a, by omega, c, fun x hx => hP x (hs.2.2 _ _ hx)⟩
def eqB (f : Nat → Int) (n j : Nat) (c : Int) : Bool := decide (j < n ∧ f j = closer c)
theorem eqB_true {f : Nat → Int} {n j : Nat} {c : Int} (h : eqB f n j c = true) : j < n ∧ clB (f j) = true := by
  simp only [eqB, decide_eq_true_eq] at h
  exact ⟨h.1, closer_cl c _ h.2⟩
theorem val_bool {a b : Bool} (h : a = b) : Value.bool a = Value.bool b := by rw [h]

set_option maxHeartbeats 4000000 in
set_option maxRecDepth 100000 in
theorem parse_core (d n c : Nat) (f : Nat → Int) (s : Nat) (w : World) (hn : n ≤ 1048576) (hs : s ≤ n) (hd : d < w.heap.size) (hc : ∀ j, j < n → w.cell? ⟨d, j, none⟩ = some (.int .u8 (f j))) :
    Calls Try.prog 16 #[.slice (some ⟨d, 0, none⟩) n c, .int .i64 s] w fun e w' => ParsePost f n s w e w' := by
  have HC : Hid _ := hc
  have hmk := info5'
  have HK : Hid (Stk w.heap.size (w.alloc (.cells (madeCells #[.int .u8 0] 16) 5)) w.heap.size 16 0) := stk_new w _ (size_madeCells _ _)
  clear hc
  go_enter Try.func16, Try.ntmps16
  go_wp2
  clear hmk
  go_loopg [1, 5] (n - s) (fun gk i v wr => ∃ k m g cap : Nat, k ≤ n ∧ m ≤ k ∧ n - k ≤ gk ∧ i = .int .i64 k ∧ v = .slice (some ⟨g, 0, none⟩) m cap ∧ Hid (Stk w.heap.size wr g cap m) ∧ Hid (Head f n s k m) ∧ Below w.heap.size w wr)
  case atStart => exact ⟨s, 0, w.heap.size, 16, hs, by omega, by omega, rfl, rfl, HK.out, Or.inl ⟨rfl, rfl⟩, (Below.refl _ _).alloc (Nat.le_refl _) _⟩
  case round =>
    obtain ⟨k, m, g, cap, hk, hmk, hgk, rfl, rfl, HSt, HH, hwr⟩ := hrel
    clear HK
    have HCr : Hid (∀ j, j < n → wr.cell? ⟨d, j, none⟩ = some (.int .u8 (f j))) := fun j hj => by rw [hwr.cell (p := ⟨d, j, none⟩) hd]; exact HC.out j hj
    by_cases hlt : k < n
    · have hck := HCr.out k hlt
      go_upto_region 5 with fail
      go_cut [26] from 13 to 111 (fun t wc => t = .bool (opB (f k)) ∧ wc = wr)
      case first =>
        as_aux_lemma =>
          by_cases h1 : f k = 123
          · have g1 : (f k == 123) = true := beq_iff_eq.2 h1
            have R : Hid (true = opB (f k)) := by show true = opB (f k); rw [h1]; rfl
            clear h1
            go_wp2
            go_meet
            case rel => exact ⟨val_bool R.out, rfl⟩
          · have g1 : (f k == 123) = false := beq_eq_false_iff_ne.2 h1
            have R : Hid ((f k == 91) = opB (f k)) := by show (f k == 91) = opB (f k); rw [Bool.eq_iff_iff]; simp [opB, h1]
            clear h1
            go_wp2
            go_meet
            case rel => exact ⟨val_bool R.out, rfl⟩
      case rest =>
        obtain ⟨rfl, hwc⟩ := hcut
        obtain rfl := hwc.symm
        go_upto_if 26 with fail
        go_cut [1, 5] from 13 to 111 (fun i v wc => ∃ k2 m2 g2 cap2 : Nat, k ≤ k2 ∧ k2 ≤ n ∧ m2 ≤ k2 ∧ i = .int .i64 k2 ∧ v = .slice (some ⟨g2, 0, none⟩) m2 cap2 ∧ Hid (Stk w.heap.size wc g2 cap2 m2) ∧ Hid (After f n s k2 m2) ∧ Below w.heap.size w wc)
        case first =>
          cases ho : opB (f k) with
          | false =>
            have HO : Hid (opB (f k) = false) := ho
            clear ho
            go_wp2_with fail
            refine (scalar_any d n c f k _ hn hlt HO.out HCr.out).mono ?_
            rintro e w1 ⟨r, rfl, ⟨q, hq⟩, hr⟩
            subst hq
            rcases hr with rfl | ⟨e2, rfl, hSc⟩
            · go_wp2
              go_ret
              exact ⟨_, rfl, below_drewN hwr _, Or.inl rfl⟩
            · have h1 := hSc.1
              have h2 := hSc.2.1
              have R : Hid (After f n s e2 m) := head_scal HH.out hlt hSc
              clear hSc
              go_wp2
              go_meet
              case rel => exact ⟨e2, m, g, cap, h1, h2, by omega, rfl, rfl, HSt, R, below_drewN hwr _⟩
          | true =>
            have HO : Hid (opB (f k) = true) := ho
            clear ho
            go_wp2_with fail
            refine (skipws_any d n c f _ (k + 1) (by omega) _ hn (by omega) HCr.out).mono ?_
            rintro e w1 ⟨rfl, hw1⟩
            obtain rfl := hw1.symm
            have S1 : Hid (Skips f n (k + 1) (W f n (k + 1))) := skips_ws (by omega)
            have hWl := W_le f n (k + 1) (by omega)
            generalize W f n (k + 1) = j at *
            go_upto_region 7 with fail
            go_cut [43] from 13 to 111 (fun t wc => t = .bool (eqB f n j (f k)) ∧ Hid (Stk w.heap.size wc g cap m) ∧ Below w.heap.size w wc)
            case first =>
              as_aux_lemma =>
                by_cases hj : j < n
                · have hcj := HCr.out j hj
                  have hjl : (j : Int) < (n : Int) := by omega
                  have R : Hid ((f j == closer (f k)) = eqB f n j (f k)) := by show (f j == closer (f k)) = eqB f n j (f k); rw [Bool.eq_iff_iff]; simp [eqB, hj]
                  go_quiet ((go_at_call 28; exact Calls.quiet_of_same (closer_any _ _)))
                  go_wp2
                  go_meet
                  case rel => exact ⟨val_bool R.out, HSt, below_drewN hwr _⟩
                · have hge : decide ((j : Int) < (n : Int)) = false := decide_eq_false (by omega)
                  have R : Hid (false = eqB f n j (f k)) := by show false = eqB f n j (f k); simp [eqB, hj]
                  go_quiet ((go_at_call 28; exact Calls.quiet_of_same (closer_any _ _)))
                  go_wp2
                  go_meet
                  case rel => exact ⟨val_bool R.out, HSt, below_drewN hwr _⟩
            case rest =>
              obtain ⟨rfl, HSt, hwc⟩ := hcut
              go_upto_if 43 with fail
              cases he : eqB f n j (f k) with
              | true =>
                obtain ⟨hj, hcl⟩ := eqB_true he
                have R : Hid (After f n s (j + 1) m) := head_empty HH.out hlt HO.out S1.out hj hcl
                clear he hcl
                go_wp2
                go_meet
                case rel => exact ⟨j + 1, m, g, cap, by omega, by omega, by omega, by go_num, rfl, HSt, R, hwc⟩
              | false =>
                clear he
                have R : Hid (Head f n s j (m + 1)) := head_open HH.out hlt HO.out S1.out
                obtain ⟨st, hl, hown⟩ := HSt.out
                obtain ⟨i0, hi, hz0, hz1, hz2⟩ := info_parts info5
                have hsz := hwc.size
                have HCw : Hid (∀ j, j < n → wc.cell? ⟨d, j, none⟩ = some (.int .u8 (f j))) := fun j hj => by rw [hwc.cell (p := ⟨d, j, none⟩) hd]; exact HC.out j hj
                go_wp2_with (at_builtin; refine wpList_append_own _ rfl _ _ 22 rfl w.heap.size 5 i0 (.int .u8 0) 1 1 Try.underlying22 hi hz0 hz1 hz2 rfl (by decide) _ _ _ rfl (hown.alloc _) ⟨wc.heap.size, 0, none⟩ 1 1 [.int .u8 (f k)] rfl rfl ?c1 ?c2 ?c3 ?c4 ?c5 ?_)
                case c1 =>
                  intro j u hj
                  match j, hj with
                  | 0, hj => simp at hj; subst hj; simp [Addr.add]
                case c2 => intro u hu; simp at hu; subst hu; rfl
                case c3 => unfold maxLen; omega
                case c4 => omega
                case c5 => simp; omega
                intro v' w1 hown' hgrow _
                obtain ⟨g', cap', hv, hst'⟩ := stk_push hl hown'
                have HSt' : Hid _ := hst'
                have hw1 : Below w.heap.size w w1 := (hwc.alloc hsz _).grown hgrow (by simp; omega) (fun b hb => (hown.lt b hb).1)
                have HC1 : Hid (∀ j, j < n → w1.cell? ⟨d, j, none⟩ = some (.int .u8 (f j))) := fun j hj => by rw [hw1.cell (p := ⟨d, j, none⟩) hd]; exact HC.out j hj
                rw [hv]
                clear hv hown' hgrow hown hst' hi hz0 hz1 hz2 HCw HSt hl
                by_cases h123 : f k = 123
                · have g1 : (f k == 123) = true := beq_iff_eq.2 h123
                  clear h123
                  go_wp2_with fail
                  refine (key_any d n c f _ j rfl _ hn (by omega) HC1.out).mono ?_
                  rintro e w2 ⟨hw2, r, rfl, hr⟩
                  obtain rfl := hw2.symm
                  rcases hr with rfl | ⟨j2, rfl, hj2, hsk⟩
                  · go_wp2
                    go_ret
                    exact ⟨_, rfl, hw1, Or.inl rfl⟩
                  · have h2 := hsk.2.1
                    have R2 : Hid (Head f n s j2 (m + 1)) := head_skip R.out hsk
                    clear hsk
                    go_wp2
                    go_roundg (n - j2)
                    case measure => omega
                    case rel => exact ⟨j2, m + 1, g', cap', h2, by omega, by omega, rfl, rfl, HSt', R2, hw1⟩
                · have g1 : (f k == 123) = false := beq_eq_false_iff_ne.2 h123
                  clear h123
                  go_wp2
                  go_roundg (n - j)
                  case measure => omega
                  case rel => exact ⟨j, m + 1, g', cap', by omega, by omega, by omega, rfl, rfl, HSt', R, hw1⟩
        case rest =>
          clear HSt HH hwr HCr hck hmk hk m g cap
          obtain ⟨k1, m, g, cap, hk1, hk1n, hm1, rfl, rfl, HSt, HA, hwr⟩ := hcut
          go_wp2
          go_loopg [1, 5] (n - k1) (fun gi i v wq => ∃ k2 m g cap : Nat, k1 ≤ k2 ∧ k2 ≤ n ∧ m ≤ k2 ∧ n - k2 ≤ gi ∧ i = .int .i64 k2 ∧ v = .slice (some ⟨g, 0, none⟩) m cap ∧ Hid (Stk w.heap.size wq g cap m) ∧ Hid (After f n s k2 m) ∧ Below w.heap.size w wq)
          case atStart => exact ⟨k1, m, g, cap, by omega, by omega, by omega, by omega, rfl, rfl, HSt, HA, hwr⟩
          case round =>
            clear HSt HA hwr hm1 m g cap
            obtain ⟨k2, m, g, cap, hk2, hk2n, hm2, hgi, rfl, rfl, HSt, HA, hwr⟩ := hrel
            have HCr : Hid (∀ j, j < n → wr.cell? ⟨d, j, none⟩ = some (.int .u8 (f j))) := fun j hj => by rw [hwr.cell (p := ⟨d, j, none⟩) hd]; exact HC.out j hj
            cases m with
            | zero =>
              go_wp2
              go_ret
              exact ⟨_, rfl, hwr, Or.inr ⟨k2, rfl, after_done HA.out⟩⟩
            | succ m =>
              have hne : (((m : Int) + 1) == 0) = false := beq_eq_false_iff_ne.2 (by omega)
              obtain ⟨x, hx⟩ := stk_top HSt.out
              have hcap := stk_cap HSt.out
              go_wp2_with fail
              refine (skipws_any d n c f _ k2 rfl _ hn (by omega) HCr.out).mono ?_
              rintro e w1 ⟨rfl, hw1⟩
              obtain rfl := hw1.symm
              have S1 : Hid (Skips f n k2 (W f n k2)) := skips_ws (by omega)
              have hWl := W_le f n k2 (by omega)
              generalize W f n k2 = j at *
              by_cases hj : j < n
              · have hcj := HCr.out j hj
                by_cases h44 : f j = 44
                · have g44 : (f j == 44) = true := beq_iff_eq.2 h44
                  have S2 : Hid (Skips f n k2 (j + 1)) := S1.out.trans (skips_one hj (by rw [h44]; exact comma_pl))
                  clear h44
                  go_wp2_with fail
                  refine (skipws_any d n c f _ (j + 1) (by omega) _ hn (by omega) HCr.out).mono ?_
                  rintro e w1 ⟨rfl, hw1⟩
                  obtain rfl := hw1.symm
                  have S3 : Hid (Skips f n k2 (W f n (j + 1))) := S2.out.trans (skips_ws (by omega))
                  have hWl2 := W_le f n (j + 1) (by omega)
                  generalize W f n (j + 1) = j3 at *
                  have R3 : Hid (Head f n s j3 (m + 1)) := after_comma HA.out (by omega) S3.out
                  by_cases h123 : x = 123
                  · have g1 : (x == 123) = true := beq_iff_eq.2 h123
                    clear h123
                    go_wp2_with fail
                    refine (key_any d n c f _ j3 rfl _ hn (by omega) HCr.out).mono ?_
                    rintro e w2 ⟨hw2, r, rfl, hr⟩
                    obtain rfl := hw2.symm
                    rcases hr with rfl | ⟨j2, rfl, hj2, hsk⟩
                    · go_wp2
                      go_ret
                      exact ⟨_, rfl, hwr, Or.inl rfl⟩
                    · have h2 := hsk.2.1
                      have R2 : Hid (Head f n s j2 (m + 1)) := head_skip R3.out hsk
                      clear hsk
                      go_wp2
                      go_roundg (n - j2)
                      case measure => omega
                      case rel => exact ⟨j2, m + 1, g, cap, h2, by omega, by omega, rfl, rfl, HSt, R2, hwr⟩
                  · have g1 : (x == 123) = false := beq_eq_false_iff_ne.2 h123
                    clear h123
                    go_wp2
                    go_roundg (n - j3)
                    case measure => omega
                    case rel => exact ⟨j3, m + 1, g, cap, by omega, by omega, by omega, rfl, rfl, HSt, R3, hwr⟩
                · have g44 : (f j == 44) = false := beq_eq_false_iff_ne.2 h44
                  clear h44
                  have hjl : (j : Int) < (n : Int) := by omega
                  by_cases hcl : f j = closer x
                  · have gcl : (f j == closer x) = true := beq_iff_eq.2 hcl
                    have R : Hid (After f n s (j + 1) m) := after_close HA.out S1.out hj (closer_cl x _ hcl)
                    clear hcl
                    go_upto_region 32 with fail
                    go_quiet ((go_at_call 28; exact Calls.quiet_of_same (closer_any _ _)))
                    go_wp2
                    go_roundg (n - (j + 1))
                    case measure => omega
                    case rel => exact ⟨j + 1, m, g, cap, by omega, by omega, by omega, by omega, by go_num, rfl, stk_pop HSt.out, R, below_drewN hwr _⟩
                  · have gcl : (f j == closer x) = false := beq_eq_false_iff_ne.2 hcl
                    clear hcl
                    go_upto_region 32 with fail
                    go_quiet ((go_at_call 28; exact Calls.quiet_of_same (closer_any _ _)))
                    go_wp2
                    go_ret
                    exact ⟨_, rfl, below_drewN hwr _, Or.inl rfl⟩
              · go_wp2
                go_ret
                exact ⟨_, rfl, hwr, Or.inl rfl⟩
    · go_wp2
      go_ret
      exact ⟨_, rfl, hwr, Or.inl rfl⟩

end Go.Proofs.Qxb6603037a.Walk
