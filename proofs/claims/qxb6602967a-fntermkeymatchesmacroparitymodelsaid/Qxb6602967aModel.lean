import Derived.Test.Qxb6602967aKey
import Derived.Deep.OwnRows
import Derived.Laws.BytesArg
namespace Go.Proofs.Qxb6602967a.Key
open Go.RowKit
open Go.Proofs.Qxb6602967a.Top

theorem info3 : (Try.prog.info? 3).map (fun i => (i.zero, i.size, i.bytes)) = some (some (.int .i64 0), 1, 8) := by kernel_rfl
theorem info5 : (Try.prog.info? 5).map (fun i => (i.zero, i.size, i.bytes)) = some (some (.int .u8 0), 1, 1) := by kernel_rfl

def runV (f : Nat → Int) (k j : Nat) : Value := .int .i64 (if j < k then (runs f j : Int) else 0)
def outV (f : Nat → Int) (k j : Nat) : Value := .int .u8 (if j < k then outI f j else 0)

theorem rel_one {w wr : World} {n k : Nat} {f : Nat → Int} {v : Int} (hlt : k < n) (HR : wr.rowIs w.heap.size 3 n (runV f k)) (HO : wr.rowIs (w.heap.size + 1) 5 n (outV f k)) (h0 : runs f k = 0) (hv : v = outI f k) (hwr : Below w.heap.size w wr) :
    (wr.setCell ⟨w.heap.size + 1, k, none⟩ (.int .u8 v)).rowIs w.heap.size 3 n (runV f (k + 1)) ∧ (wr.setCell ⟨w.heap.size + 1, k, none⟩ (.int .u8 v)).rowIs (w.heap.size + 1) 5 n (outV f (k + 1)) ∧ Below w.heap.size w (wr.setCell ⟨w.heap.size + 1, k, none⟩ (.int .u8 v)) := by
  subst hv
  refine ⟨(HR.setOther (by show w.heap.size ≠ w.heap.size + 1; omega) _).congr fun i _ => ?_, (HO.set k _).congr fun i _ => ?_, hwr.setCell (by show w.heap.size ≤ w.heap.size + 1; omega) _⟩
  · unfold runV
    by_cases e : i = k
    · subst e; simp [h0]
    · by_cases e2 : i < k
      · rw [if_pos e2, if_pos (by omega)]
      · rw [if_neg e2, if_neg (by omega)]
  · unfold outV
    by_cases e : i = k
    · subst e; simp
    · rw [if_neg e]
      by_cases e2 : i < k
      · rw [if_pos e2, if_pos (by omega)]
      · rw [if_neg e2, if_neg (by omega)]

theorem rel_two {w wr : World} {n k : Nat} {f : Nat → Int} {v r : Int} (hlt : k < n) (HR : wr.rowIs w.heap.size 3 n (runV f k)) (HO : wr.rowIs (w.heap.size + 1) 5 n (outV f k)) (h0 : (runs f k : Int) = r) (hv : v = outI f k) (hwr : Below w.heap.size w wr) :
    ((wr.setCell ⟨w.heap.size, k, none⟩ (.int .i64 r)).setCell ⟨w.heap.size + 1, k, none⟩ (.int .u8 v)).rowIs w.heap.size 3 n (runV f (k + 1)) ∧ ((wr.setCell ⟨w.heap.size, k, none⟩ (.int .i64 r)).setCell ⟨w.heap.size + 1, k, none⟩ (.int .u8 v)).rowIs (w.heap.size + 1) 5 n (outV f (k + 1)) ∧
      Below w.heap.size w ((wr.setCell ⟨w.heap.size, k, none⟩ (.int .i64 r)).setCell ⟨w.heap.size + 1, k, none⟩ (.int .u8 v)) := by
  subst hv h0
  refine ⟨((HR.set k _).setOther (by show w.heap.size ≠ w.heap.size + 1; omega) _).congr fun i _ => ?_, ((HO.setOther (by show w.heap.size + 1 ≠ w.heap.size; omega) _).set k _).congr fun i _ => ?_, (hwr.setCell (by show w.heap.size ≤ w.heap.size; omega) _).setCell (by show w.heap.size ≤ w.heap.size + 1; omega) _⟩
  · unfold runV
    by_cases e : i = k
    · subst e; simp
    · rw [if_neg e]
      by_cases e2 : i < k
      · rw [if_pos e2, if_pos (by omega)]
      · rw [if_neg e2, if_neg (by omega)]
  · unfold outV
    by_cases e : i = k
    · subst e; simp
    · rw [if_neg e]
      by_cases e2 : i < k
      · rw [if_pos e2, if_pos (by omega)]
      · rw [if_neg e2, if_neg (by omega)]

theorem runs_no (f : Nat → Int) (k : Nat) (h : ¬(2 ≤ k ∧ f (k - 2) = 37 ∧ f (k - 1) = 123)) : runs f k = 0 := by
  match k with
  | 0 => rfl
  | 1 => rfl
  | p + 2 =>
    simp only [runs]
    rw [if_neg]
    intro hh
    exact h ⟨by omega, hh.1, hh.2⟩

theorem outB_range (f : Nat → Int) (n : Nat) : ((List.range n).map (outI f)).map (fun z => UInt8.ofNat z.toNat) = outB f n := by
  induction n with
  | zero => rfl
  | succ k ih =>
    rw [List.range_succ, List.map_append, List.map_append, ih]
    rfl

theorem out_zero (f : Nat → Int) (k : Nat) (c v : Int) (hc : f k = c) (h0 : runs f k = 0) (hv : v = low c) : v = outI f k := by
  subst hc hv
  unfold outI
  rw [h0, if_pos rfl]
theorem out_odd (f : Nat → Int) (k : Nat) (c v : Int) (r : Nat) (hc : f k = c) (h0 : runs f k = r + 1) (hr : ((r : Int) + 1) % 2 ≠ 0) (hv : v = c) : v = outI f k := by
  subst hc hv
  unfold outI
  rw [h0, if_neg (by omega)]
theorem out_even (f : Nat → Int) (k : Nat) (c v : Int) (r : Nat) (hc : f k = c) (h0 : runs f k = r + 1) (hr : ((r : Int) + 1) % 2 = 0) (hv : v = low c) : v = outI f k := by
  subst hc hv
  unfold outI
  rw [h0, if_pos (by omega)]
theorem out_low (f : Nat → Int) (k : Nat) (c v : Int) (hc : f k = c) (hno : ¬ (65 ≤ c ∧ c ≤ 90)) (hv : v = c) : v = outI f k := by
  subst hc hv
  unfold outI low
  rw [if_neg hno]
  split <;> rfl

set_option maxHeartbeats 1000000 in
/-- 'keyModel' of a name that is neither redirect nor exp. -/
theorem model_plain (name text : ByteArray) (w : World) (hs : text.size ≤ 1048576)
    (h1 : (name.toList == [114, 101, 100, 105, 114, 101, 99, 116]) = false) (h2 : (name.toList == [101, 120, 112]) = false) :
    Calls Try.prog 18 #[.string name, .string text] w fun e w' => e = .returned (.string ⟨(outB (byt text) text.size).toArray⟩) ∧ Below w.heap.size w w' := by
  have hmk3 := run_make_row' (P := Try.prog) 30 3 (.int .i64 0) 8 Try.underlying30 info3 rfl .i64 .i64 text.size (by omega) (by omega)
  have hmk5 := run_make_row' (P := Try.prog) 23 5 (.int .u8 0) 1 Try.underlying23 info5 rfl .i64 .i64 text.size (by omega) (by omega)
  go_enter Try.func18, Try.ntmps18
  go_wp2
  clear hmk3 hmk5
  go_loopw [8] (fun i wr => ∃ k : Nat, k ≤ text.size ∧ i = .int .i64 k ∧ Hid (wr.rowIs w.heap.size 3 text.size (runV (byt text) k)) ∧ Hid (wr.rowIs (w.heap.size + 1) 5 text.size (outV (byt text) k)) ∧ Below w.heap.size w wr) (fun i _ => text.size - (intOf i).toNat)
  case atStart =>
    refine ⟨0, Nat.zero_le _, rfl, ?_, ?_, ((Below.refl _ _).alloc (Nat.le_refl _) _).alloc (by simp) _⟩
    · exact ((World.rowIs_made w (.int .i64 0) text.size 3).alloc _).congr fun i _ => by simp [runV]
    · have h := World.rowIs_made (w.alloc (Obj.cells (madeCells #[Value.int IntKind.i64 0] text.size) 3)) (.int .u8 0) text.size 5
      simp only [World.size_alloc] at h
      exact h.congr fun i _ => by simp [outV]
  case round =>
    obtain ⟨k, hk, rfl, HR, HO, hwr⟩ := hrel
    by_cases hlt : k < text.size
    · have hbd := byt_bd text k
      have e0 := byt_at text k hlt
      have hfk := HR.out.frozen k
      have hfo := HO.out.frozen k
      have hck : wr.cell? ⟨w.heap.size, k, none⟩ = some (.int .i64 0) := by rw [HR.out.cell hlt]; simp [runV]
      have hco : wr.cell? ⟨w.heap.size + 1, k, none⟩ = some (.int .u8 0) := by rw [HO.out.cell hlt]; simp [outV]
      have HE : Hid (byt text k = ((text[k]'hlt).toNat : Int)) := e0
      clear e0 hbd
      by_cases hA : 2 ≤ k ∧ byt text (k - 2) = 37 ∧ byt text (k - 1) = 123
      · obtain ⟨a1, a2, a3⟩ := hA
        obtain ⟨j, rfl⟩ : ∃ j, k = j + 2 := ⟨k - 2, by omega⟩
        simp only [Nat.add_sub_cancel] at a2
        have a3' : byt text (j + 1) = 123 := a3
        have e1 := byt_at text j (by omega)
        have e2 := byt_at text (j + 1) (by omega)
        have t1 : (((text[j]'(by omega)).toNat : Int) == 37) = true := by rw [← e1, a2]; rfl
        have t2 : (((text[j + 1]'(by omega)).toNat : Int) == 123) = true := by rw [← e2, a3']; rfl
        have hrl := (runs_le (byt text) j).1
        have hcp : wr.cell? ⟨w.heap.size, j, none⟩ = some (.int .i64 (runs (byt text) j)) := by rw [HR.out.cell (by omega)]; simp [runV]
        have HN : Hid (runs (byt text) (j + 2) = runs (byt text) j + 1) := by show runs (byt text) (j + 2) = _; simp [runs, a2, a3']
        clear e1 e2 a1 a2 a3 a3'
        generalize runs (byt text) j = r at *
        go_wp2
        · have hev : (((r : Int) + 1) % 2 == 0) = true := by assumption
          have R := rel_two hlt HR.out HO.out (r := (r : Int) + 1) (v := ((text[j + 2]'hlt).toNat : Int) - 65 + 97) (by rw [HN.out]; omega) (out_even _ _ _ _ r HE.out HN.out (by simpa using hev) (by unfold low; rw [if_pos (by omega)]; omega)) hwr
          go_roundw
          case rel => exact ⟨j + 3, by omega, by go_num, R.1, R.2.1, R.2.2⟩
          case measure => simp [intOf]; omega
        · have hev : (((r : Int) + 1) % 2 == 0) = false := by assumption
          have R := rel_two hlt HR.out HO.out (r := (r : Int) + 1) (v := ((text[j + 2]'hlt).toNat : Int)) (by rw [HN.out]; omega) (out_odd _ _ _ _ r HE.out HN.out (by simpa using hev) rfl) hwr
          go_roundw
          case rel => exact ⟨j + 3, by omega, by go_num, R.1, R.2.1, R.2.2⟩
          case measure => simp [intOf]; omega
        all_goals
          have R := rel_two hlt HR.out HO.out (r := (r : Int) + 1) (v := ((text[j + 2]'hlt).toNat : Int)) (by rw [HN.out]; omega) (out_low _ _ _ _ HE.out (by omega) rfl) hwr
          go_roundw
          case rel => exact ⟨j + 3, by omega, by go_num, R.1, R.2.1, R.2.2⟩
          case measure => simp [intOf]; omega
      · have H0 : Hid (runs (byt text) k = 0) := runs_no _ _ hA
        have hthree : k < 2 ∨ (∃ h : 2 ≤ k, (((text[k - 2]'(by omega)).toNat : Int) == 37) = false) ∨ (∃ h : 2 ≤ k, (((text[k - 2]'(by omega)).toNat : Int) == 37) = true ∧ (((text[k - 1]'(by omega)).toNat : Int) == 123) = false) := by
          by_cases a1 : 2 ≤ k
          · have e1 := byt_at text (k - 2) (by omega)
            have e2 := byt_at text (k - 1) (by omega)
            by_cases a2 : byt text (k - 2) = 37
            · refine Or.inr (Or.inr ⟨a1, by rw [← e1, a2]; rfl, beq_eq_false_iff_ne.2 ?_⟩)
              rw [← e2]
              exact fun a3 => hA ⟨a1, a2, a3⟩
            · refine Or.inr (Or.inl ⟨a1, beq_eq_false_iff_ne.2 ?_⟩)
              rw [← e1]
              exact a2
          · exact Or.inl (by omega)
        clear hA
        rcases hthree with h | ⟨h, h'⟩ | ⟨h, h', h''⟩
        all_goals
          go_wp2
          · have R := rel_one hlt HR.out HO.out (v := ((text[k]'hlt).toNat : Int) - 65 + 97) H0.out (out_zero _ _ _ _ HE.out H0.out (by unfold low; rw [if_pos (by omega)]; omega)) hwr
            go_roundw
            case rel => exact ⟨k + 1, by omega, by go_num, R.1, R.2.1, R.2.2⟩
            case measure => simp [intOf]; omega
          all_goals
            have R := rel_one hlt HR.out HO.out (v := ((text[k]'hlt).toNat : Int)) H0.out (out_low _ _ _ _ HE.out (by omega) rfl) hwr
            go_roundw
            case rel => exact ⟨k + 1, by omega, by go_num, R.1, R.2.1, R.2.2⟩
            case measure => simp [intOf]; omega
    · have e : k = text.size := by omega
      subst e
      have hcv := run_convert_bytes_arg (P := Try.prog) wr 23 5 Try.underlying23 Try.underlying5 (w.heap.size + 1) 0 text.size text.size ((List.range text.size).map (outI (byt text))) (by simp) (fun i hi => by
        rw [Nat.zero_add, HO.out.cell hi]
        simp [outV, hi]) 9 Try.underlying9
      have es : strOfNums ((List.range text.size).map (outI (byt text))) = ⟨(outB (byt text) text.size).toArray⟩ := by
        unfold strOfNums
        rw [outB_range]
      rw [es] at hcv
      clear es
      go_wp2
      go_ret
      exact ⟨rfl, hwr⟩

end Go.Proofs.Qxb6602967a.Key
