import Derived.Test.Qxb6603037aProg
import Derived.Test.Qxb6603037aStrPlain
import Derived.WalkKit
import Derived.WalkSpells
import Derived.WalkLawsBesides
import Derived.Deep.OwnRows
import Derived.Deep.Light
namespace Go.Proofs.Qxb6603037a.Walk
open Go.RowKit
open Go.Proofs.Qxb6603037a.Str

theorem ret_bool {a b : Bool} (h : a = b) : Ending.returned (.bool a) = .returned (.bool b) := by rw [h]
theorem info5 : (Try.prog.info? 5).map (fun i => (i.zero, i.size, i.bytes)) = some (some (.int .u8 0), 1, 1) := by kernel_rfl

theorem hex_any (n : Int) (w : World) : Calls Try.prog 23 #[.int .u8 n] w fun e w' => e = .returned (.bool (hexB n)) ∧ w' = w := by
  go_enter Try.func23, Try.ntmps23
  go_wp2
  all_goals
    go_ret
    exact ⟨ret_bool (by rw [Bool.eq_iff_iff]; simp [hexB]; omega), rfl⟩

theorem sim_any (n : Int) (w : World) : Calls Try.prog 22 #[.int .u8 n] w fun e w' => e = .returned (.bool (simB n)) ∧ w' = w := by
  go_enter Try.func22, Try.ntmps22
  go_wp2
  all_goals
    go_ret
    refine ⟨ret_bool ?_, rfl⟩
    go_light
    simp only [beq_iff_eq, beq_eq_false_iff_ne, ne_eq] at *
    unfold simB
    symm
    first
      | (apply decide_eq_true; omega)
      | (apply decide_eq_false; omega)

/-- the cells of the data, told by a function of the index -/
def dataV (f : Nat → Int) (j : Nat) : Value := .int .u8 (f j)
def cloneV (f : Nat → Int) (k j : Nat) : Value := .int .u8 (if j < k then f j else 0)

theorem clone_step {w wr : World} {n k : Nat} {f : Nat → Int} (hO : wr.rowIs w.heap.size 5 n (cloneV f k)) (hwr : Below w.heap.size w wr) :
    (wr.setCell ⟨w.heap.size, k, none⟩ (.int .u8 (f k))).rowIs w.heap.size 5 n (cloneV f (k + 1)) ∧ Below w.heap.size w (wr.setCell ⟨w.heap.size, k, none⟩ (.int .u8 (f k))) := by
  refine ⟨(hO.set k _).congr fun i _ => ?_, hwr.setCell (Nat.le_refl _) _⟩
  unfold cloneV
  by_cases e : i = k
  · subst e; simp
  · rw [if_neg e]
    by_cases e2 : i < k
    · rw [if_pos e2, if_pos (by omega)]
    · rw [if_neg e2, if_neg (by omega)]

set_option maxHeartbeats 400000 in
/-- 'zzCloneBytes' of a slice that is not nil. -/
theorem clone_any (b o n c : Nat) (f : Nat → Int) (w : World) (hn : n ≤ 1048576) (hc : ∀ j, j < n → w.cell? ⟨b, o + j, none⟩ = some (.int .u8 (f j))) (hb : b < w.heap.size) :
    Calls Try.prog 8 #[.slice (some ⟨b, o, none⟩) n c] w fun e w' => e = .returned (.slice (some ⟨w.heap.size, 0, none⟩) n n) ∧ w'.rowIs w.heap.size 5 n (dataV f) ∧ Below w.heap.size w w' := by
  have hmk := run_make_row' (P := Try.prog) 22 5 (.int .u8 0) 1 Try.underlying22 info5 rfl .i64 .i64 n (by omega) (by omega)
  have hnil := fun w => Lib.run_eql_slice_nil (P := Try.prog) w 22 5 (some ⟨b, o, none⟩) n c 0 0 Try.underlying22
  simp only [Option.isNone_some] at hnil
  have HC : Hid _ := hc
  clear hc
  go_enter Try.func8, Try.ntmps8
  go_wp2
  clear hmk hnil
  go_loopw [4] (fun i wr => ∃ k : Nat, k ≤ n ∧ i = .int .i64 k ∧ Hid (wr.rowIs w.heap.size 5 n (cloneV f k)) ∧ Below w.heap.size w wr) (fun i _ => n - (intOf i).toNat)
  case atStart =>
    refine ⟨0, Nat.zero_le _, rfl, ?_, (Below.refl _ _).alloc (Nat.le_refl _) _⟩
    exact (World.rowIs_made w (.int .u8 0) n 5).congr fun i _ => by simp [cloneV]
  case round =>
    obtain ⟨k, hk, rfl, HO, hwr⟩ := hrel
    by_cases hlt : k < n
    · have hcr : wr.cell? ⟨b, o + k, none⟩ = some (.int .u8 (f k)) := by rw [hwr.cell (p := ⟨b, o + k, none⟩) hb]; exact HC.out k hlt
      have hfo := HO.out.frozen k
      have hco : wr.cell? ⟨w.heap.size, k, none⟩ = some (.int .u8 0) := by rw [HO.out.cell hlt]; simp [cloneV]
      go_wp2
      have R := clone_step HO.out hwr
      go_roundw
      case rel => exact ⟨k + 1, by omega, by go_num, R.1, R.2⟩
      case measure => simp [intOf]; omega
    · have e : k = n := by omega
      subst e
      go_wp2
      go_ret
      exact ⟨rfl, HO.out.congr fun i hi => by simp [cloneV, dataV, hi], hwr⟩

/-- 'zzCloneBytes' of a slice without elements, not nil. -/
theorem clone_empty (x : Addr) (c : Nat) (w : World) :
    Calls Try.prog 8 #[.slice (some x) 0 c] w fun e w' => e = .returned (.slice (some ⟨w.heap.size, 0, none⟩) 0 0) ∧ Below w.heap.size w w' := by
  have hmk := run_make_row' (P := Try.prog) 22 5 (.int .u8 0) 1 Try.underlying22 info5 rfl .i64 .i64 0 (by omega) (by omega)
  have hnil := fun w => Lib.run_eql_slice_nil (P := Try.prog) w 22 5 (some x) 0 c 0 0 Try.underlying22
  simp only [Option.isNone_some, Int.natCast_zero] at hnil hmk
  go_enter Try.func8, Try.ntmps8
  go_wp2
  clear hmk hnil
  go_loopw [4] (fun i wr => i = .int .i64 0 ∧ Below w.heap.size w wr) (fun i _ => 0)
  case atStart => exact ⟨rfl, (Below.refl _ _).alloc (Nat.le_refl _) _⟩
  case round =>
    obtain ⟨rfl, hwr⟩ := hrel
    go_wp2
    go_ret
    exact ⟨rfl, hwr⟩

/-- 'zzCloneBytes' of nil. -/
theorem clone_nil (w : World) :
    Calls Try.prog 8 #[.slice none 0 0] w fun e w' => e = .returned (.slice none 0 0) ∧ w' = w := by
  have hnil := fun w => Lib.run_eql_slice_nil (P := Try.prog) w 22 5 none 0 0 0 0 Try.underlying22
  simp only [Option.isNone_none] at hnil
  go_enter Try.func8, Try.ntmps8
  go_wp2
  go_ret
  exact ⟨rfl, rfl⟩

end Go.Proofs.Qxb6603037a.Walk
