import Derived.Test.Qxb6603037aScan
set_option linter.unusedVariables false
namespace Go.Proofs.Qxb6603037a.Walk
open Go.RowKit
open Go.Proofs.Qxb6603037a.Str

theorem scan_new {w : World} {d n c a : Nat} {f : Nat → Int} (hd : d < w.heap.size) (hc : ∀ j, j < n → w.cell? ⟨d, j, none⟩ = some (.int .u8 (f j))) :
    Scan w.heap.size d n c f a (w.alloc (.cells #[.slice (some ⟨d, 0, none⟩) n c, .int .i64 a] 34)) := by
  refine ⟨by simp, by simp, ?_, fun j hj => ?_⟩
  · rw [frozen?_alloc_cells]
    simp [World.frozen?]
  · have hb := (Below.refl w.heap.size w).alloc (Nat.le_refl _) (.cells #[.slice (some ⟨d, 0, none⟩) n c, .int .i64 a] 34)
    rw [hb.cell (p := ⟨d, j, none⟩) hd]
    exact hc j hj

set_option maxHeartbeats 400000 in
theorem zzstr_any (d n c : Nat) (f : Nat → Int) (a : Nat) (w : World) (hn : n ≤ 1048576) (hnc : n ≤ c) (hcm : c ≤ 1048576) (ha : a < n) (hd : d < w.heap.size) (hc : ∀ j, j < n → w.cell? ⟨d, j, none⟩ = some (.int .u8 (f j))) :
    Calls Try.prog 9 #[.slice (some ⟨d, 0, none⟩) n c, .int .i64 a] w fun e w' => e = .returned (.tuple #[.bool (V f n (a + 1)).1, .int .i64 (V f n (a + 1)).2]) ∧ Below w.heap.size w w' := by
  obtain ⟨ok, en, hF⟩ : ∃ ok en, V f n (a + 1) = (ok, en) := ⟨_, _, rfl⟩
  have HS : Hid (Scan w.heap.size d n c f a (w.alloc (.cells #[.slice (some ⟨d, 0, none⟩) n c, .int .i64 a] 34))) := scan_new hd hc
  rw [hF]
  have HF : Hid (V f n (a + 1) = (ok, en)) := hF
  clear hF hc
  go_enter Try.func9, Try.ntmps9
  go_wp2_with fail
  refine (valid_core w.heap.size d n c f a ok en _ hn hnc hcm ha hd HS.out HF.out).mono ?_
  rintro e w1 ⟨rfl, hS1, hB1⟩
  have hB : Below w.heap.size w w1 := ((Below.refl _ _).alloc (Nat.le_refl _) _).trans hB1
  obtain ⟨s0, s1, s2, s3⟩ := hS1
  clear s3 hB1 HS
  go_wp2
  go_quiet (fail)
  go_wp2
  go_ret2
  exact ⟨rfl, below_drewN hB _⟩

theorem bytes7_yes (a : Option Addr) (n c : Nat) (x : Int) (w : World) (h : n ≤ 1048576) : Calls Try.prog 7 #[.slice a n c, .int .i64 x] w fun e w' => e = .returned (.bool true) ∧ w' = w := by
  go_enter Try.func7, Try.ntmps7
  go_wp2
  go_ret
  exact ⟨rfl, rfl⟩
theorem bytes7_no (a : Option Addr) (n c : Nat) (x : Int) (w : World) (h : 1048576 < n) : Calls Try.prog 7 #[.slice a n c, .int .i64 x] w fun e w' => e = .returned (.bool false) ∧ w' = w := by
  have h1 : (1048576 : Int) < (n : Int) := by omega
  go_enter Try.func7, Try.ntmps7
  go_wp2
  go_ret
  exact ⟨rfl, rfl⟩

end Go.Proofs.Qxb6603037a.Walk
