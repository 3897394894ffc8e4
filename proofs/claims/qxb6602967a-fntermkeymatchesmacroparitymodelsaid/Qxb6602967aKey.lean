import Derived.Test.Qxb6602967aTop
import Derived.Test.Qxb6602967aKeyPlain
import Derived.Test.Qxb6602967aShelf
import Derived.Deep.Light
namespace Go.Proofs.Qxb6602967a.Key
open Go.RowKit
open Go.Proofs.Qxb6602967a.Top

theorem byt_bd (s : ByteArray) (i : Nat) : 0 ≤ byt s i ∧ byt s i < 256 := by
  unfold byt
  have := (s.data.toList.getD i 0).toNat_lt
  omega

theorem u8_of (c : UInt8) : ((c.toNat : Int).toNat.toUInt8) = c := by
  rw [Int.toNat_natCast]
  simp

theorem byt_u8 (s : ByteArray) (i : Nat) : (byt s i).toNat.toUInt8 = s.data.toList.getD i 0 := by
  unfold byt
  exact u8_of _

theorem three (s : ByteArray) (i : Nat) (h : i + 2 < s.size) :
    Lib.strCells (s.extract i (i + 3)) = Lib.byteCells [(byt s i).toNat.toUInt8, (byt s (i + 1)).toNat.toUInt8, (byt s (i + 2)).toNat.toUInt8] := by
  rw [Lib.strCells_eq, Lib.extract_data, byt_u8, byt_u8, byt_u8]
  congr 1
  have hl : i + 2 < s.data.toList.length := by simpa using h
  apply List.ext_getElem?
  intro j
  simp only [List.getD_eq_getElem?_getD]
  match j with
  | 0 => simp [List.getElem?_eq_getElem (show i < s.data.toList.length by omega)]
  | 1 => simp [List.getElem?_eq_getElem (show i + 1 < s.data.toList.length by omega)]
  | 2 => simp [List.getElem?_eq_getElem hl]
  | n + 3 =>
    simp
    omega

theorem cell_of_int (c : Int) (h0 : 0 ≤ c) (h1 : c < 256) : Lib.byteCells [c.toNat.toUInt8] = [Value.int .u8 c] := by
  simp only [Lib.byteCells, List.map_cons, List.map_nil]
  congr 2
  rw [UInt8.toNat_ofNat']
  omega

theorem add_one (f : Nat → Int) (n i : Nat) (c : Int) (hi : Inv f n i) (hlt : i < n) (hb : 0 ≤ f i ∧ f i < 256) (hc : c = low (f i)) :
    Lib.byteCells (outB f i) ++ [Value.int .u8 c] = Lib.byteCells (outB f (i + 1)) := by
  have hl := low_bd (f i) hb.1 hb.2
  subst hc
  show _ = Lib.byteCells (outB f i ++ [(outI f i).toNat.toUInt8])
  rw [Lib.byteCells_append, one_out f n i hi hlt, cell_of_int _ hl.1 hl.2]

theorem add_three (s : ByteArray) (i : Nat) (hi : Inv (byt s) s.size i) (hlt : i + 2 < s.size) (h0 : byt s i = 37) (h1 : byt s (i + 1) = 123) :
    Lib.byteCells (outB (byt s) i) ++ Lib.strCells (s.extract i (i + 3)) = Lib.byteCells (outB (byt s) (i + 3)) := by
  obtain ⟨a, b, c⟩ := chunk_out (byt s) s.size i hi hlt h0 h1
  rw [outB_three _ _ a b c, Lib.byteCells_append, three s i hlt]

theorem heap_two (w : World) (a o : Obj) : ((w.alloc a).alloc o).heap[w.heap.size + 1]? = some o := by
  have := (MapKept.heap_alloc (w.alloc a) o).1
  simpa using this

set_option maxHeartbeats 1000000 in
/-- 'key' of a term named neither redirect nor exp. -/
theorem key_plain (m : Bool) (q : Int) (name arg text : ByteArray) (w : World) (hs : text.size ≤ 1048576)
    (h1 : (name.toList == [114, 101, 100, 105, 114, 101, 99, 116]) = false) (h2 : (name.toList == [101, 120, 112]) = false) :
    Calls Try.prog 31 #[.agg #[.bool m, .int .i64 q, .string name, .string arg, .string text]] w fun e w' => e = .returned (.string ⟨(outB (byt text) text.size).toArray⟩) ∧ Below w.heap.size w w' := by
  go_enter Try.func31, Try.ntmps31
  go_wp2_with fail
  refine (Try.Builder_Grow_fresh (w.heap.size + 1) (w.heap.size + 1) text.size _ (Nat.le_refl _) (heap_two _ _ _) (by simp) (by omega)).mono ?_
  rintro e w1 ⟨rfl, hB1, hb1⟩
  have hc1 : w1.cell? ⟨w.heap.size, 4, none⟩ = some (.string text) := by
    rw [hb1.cell (p := ⟨w.heap.size, 4, none⟩) (by simp)]
    simp
  have hz1 : w.heap.size + 1 ≤ w1.heap.size := by have := hb1.size; simp at this; omega
  have hw1 : Below w.heap.size w w1 := (((Below.refl _ _).alloc (Nat.le_refl _) _).alloc (by simp) _).trans (hb1.mono (by omega))
  have HB1 : Hid _ := hB1
  clear hb1 hB1
  go_wp2_with fail
  go_loopw [4] (fun i wr => ∃ k : Nat, k ≤ text.size ∧ i = .int .i64 k ∧ Hid (Inv (byt text) text.size k) ∧ Hid (Lib.IsBuilder 50 5 (w.heap.size + 1) (w.heap.size + 1) (Lib.byteCells (outB (byt text) k)) wr) ∧ wr.cell? ⟨w.heap.size, 4, none⟩ = some (.string text) ∧ w.heap.size + 1 ≤ wr.heap.size ∧ Below w.heap.size w wr) (fun i _ => text.size - (intOf i).toNat)
  case atStart => exact ⟨0, Nat.zero_le _, rfl, inv_zero _ _, Or.inr HB1.out, hc1, hz1, hw1⟩
  case round =>
    obtain ⟨k, hk, rfl, HI, HB, hct, hzr, hwr⟩ := hrel
    clear hc1 hz1 hw1 HB1
    by_cases hlt : k < text.size
    · have hbd := byt_bd text k
      have e0 := byt_at text k hlt
      by_cases hA : byt text k = 37 ∧ k + 2 < text.size ∧ byt text (k + 1) = 123
      · obtain ⟨a1, a2, a3⟩ := hA
        have e1 := byt_at text (k + 1) (by omega)
        have t0 : (((text[k]'hlt).toNat : Int) == 37) = true := by rw [← e0, a1]; rfl
        have t1 : (((text[k + 1]'(by omega)).toNat : Int) == 123) = true := by rw [← e1, a3]; rfl
        have t2 : (k : Int) + 2 < (text.size : Int) := by omega
        have HN : Hid (Inv (byt text) text.size (k + 3)) := chunk_inv _ _ _ HI.out a2 a1 a3
        have HC : Hid (Lib.byteCells (outB (byt text) k) ++ Lib.strCells (text.extract k (k + 3)) = Lib.byteCells (outB (byt text) (k + 3))) := add_three text k HI.out a2 a1 a3
        clear e0 e1 a1 a3 hbd
        go_wp2_with fail
        refine (Try.Builder_WriteString (w.heap.size + 1) (w.heap.size + 1) _ _ wr HB.out (by rw [Lib.byteCells_length, outB_length]; simp; omega) (by omega)).mono ?_
        rintro e w2 ⟨rfl, hB2, hb2⟩
        rw [HC.out] at hB2
        have HB2 : Hid _ := hB2
        have hct2 : w2.cell? ⟨w.heap.size, 4, none⟩ = some (.string text) := by rw [hb2.cell (p := ⟨w.heap.size, 4, none⟩) (by simp)]; exact hct
        have hz2 : w.heap.size + 1 ≤ w2.heap.size := by have := hb2.size; omega
        have hw2 : Below w.heap.size w w2 := hwr.trans (hb2.mono (by omega))
        clear hB2 hb2 hct hzr hwr HB
        go_wp2
        go_roundw
        case rel => exact ⟨k + 3, by omega, by go_num, HN, Or.inr HB2.out, hct2, hz2, hw2⟩
        case measure => simp [intOf]; omega
      · have HN : Hid (Inv (byt text) text.size (k + 1)) := one_inv _ _ _ HI.out hA
        have HA : Hid (¬(byt text k = 37 ∧ k + 2 < text.size ∧ byt text (k + 1) = 123)) := hA
        have HE : Hid (byt text k = ((text[k]'hlt).toNat : Int)) := e0
        have HD : Hid (0 ≤ byt text k ∧ byt text k < 256) := hbd
        clear hA e0 hbd
        go_wp2_with fail
        · exfalso
          have c0 : ((text[k]'hlt).toNat : Int) = 37 := by assumption
          have c1 : (((text[k + 1]'(by omega)).toNat : Int) == 123) = true := by assumption
          exact HA.out ⟨by rw [HE.out]; exact c0, by omega, by rw [byt_at text (k + 1) (by omega)]; simpa using c1⟩
        all_goals
          refine (Try.Builder_WriteByte (w.heap.size + 1) (w.heap.size + 1) _ _ wr HB.out (by rw [Lib.byteCells_length, outB_length]; omega) (by omega)).mono ?_
          rintro e w2 ⟨rfl, hB2, hb2⟩
          rw [add_one (byt text) text.size k _ HI.out hlt HD.out (by rw [HE.out]; unfold low; split <;> omega)] at hB2
          have HB2 : Hid _ := hB2
          have hct2 : w2.cell? ⟨w.heap.size, 4, none⟩ = some (.string text) := by rw [hb2.cell (p := ⟨w.heap.size, 4, none⟩) (by simp)]; exact hct
          have hz2 : w.heap.size + 1 ≤ w2.heap.size := by have := hb2.size; omega
          have hw2 : Below w.heap.size w w2 := hwr.trans (hb2.mono (by omega))
          clear hB2 hb2 hct hzr hwr HB
          go_wp2
          go_roundw
          case rel => exact ⟨k + 1, by omega, by go_num, HN, Or.inr HB2.out, hct2, hz2, hw2⟩
          case measure => simp [intOf]; omega
    · go_wp2_with fail
      have e : k = text.size := by omega
      subst e
      refine (Try.Builder_String_any (w.heap.size + 1) (w.heap.size + 1) _ wr HB.out (by omega)).mono ?_
      rintro e w2 ⟨rfl, hb2⟩
      go_wp2
      go_ret
      exact ⟨rfl, hwr.trans (hb2.mono (by omega))⟩

def redirectS : ByteArray := ⟨#[114, 101, 100, 105, 114, 101, 99, 116]⟩
def redirectE : ByteArray := ⟨#[114, 101, 100, 105, 114, 101, 99, 116, 61]⟩
def expS : ByteArray := ⟨#[101, 120, 112]⟩
def expE : ByteArray := ⟨#[101, 120, 112, 61]⟩

theorem key_redirect (m : Bool) (q : Int) (arg text : ByteArray) (w : World) :
    Calls Try.prog 31 #[.agg #[.bool m, .int .i64 q, .string ⟨#[114, 101, 100, 105, 114, 101, 99, 116]⟩, .string arg, .string text]] w fun e w' => e = .returned (.string redirectE) ∧ Below w.heap.size w w' := by
  go_enter Try.func31, Try.ntmps31
  go_wp2
  go_ret
  exact ⟨rfl, (Below.refl _ _).alloc (Nat.le_refl _) _⟩

theorem key_exp (m : Bool) (q : Int) (arg text : ByteArray) (w : World) :
    Calls Try.prog 31 #[.agg #[.bool m, .int .i64 q, .string ⟨#[101, 120, 112]⟩, .string arg, .string text]] w fun e w' => e = .returned (.string expE) ∧ Below w.heap.size w w' := by
  go_enter Try.func31, Try.ntmps31
  go_wp2
  go_ret
  exact ⟨rfl, (Below.refl _ _).alloc (Nat.le_refl _) _⟩

end Go.Proofs.Qxb6602967a.Key
