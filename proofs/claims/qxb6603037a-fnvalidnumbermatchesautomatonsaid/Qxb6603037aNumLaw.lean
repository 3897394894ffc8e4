import Derived.Test.Qxb6603037aVNum
import Derived.Test.Qxb6603037aStrLaw
set_option linter.unusedVariables false
namespace Go.Proofs.Qxb6603037a.Walk
open Go.RowKit
open Go.Proofs.Qxb6603037a.Num

set_option maxHeartbeats 400000 in
theorem zznum_any (d n c : Nat) (f : Nat → Int) (a : Nat) (w : World) (hn : n ≤ 1048576) (hnc : n ≤ c) (hcm : c ≤ 1048576) (ha : a < n) (hd : d < w.heap.size) (hc : ∀ j, j < n → w.cell? ⟨d, j, none⟩ = some (.int .u8 (f j))) :
    Calls Try.prog 12 #[.slice (some ⟨d, 0, none⟩) n c, .int .i64 a] w fun e w' => e = .returned (.tuple #[.bool (num f n a).1, .int .i64 (num f n a).2]) ∧ Below w.heap.size w w' := by
  obtain ⟨ok, en, hF⟩ : ∃ ok en, num f n a = (ok, en) := ⟨_, _, rfl⟩
  have HS : Hid (Scan w.heap.size d n c f a (w.alloc (.cells #[.slice (some ⟨d, 0, none⟩) n c, .int .i64 a] 34))) := scan_new hd hc
  rw [hF]
  have HF : Hid (num f n a = (ok, en)) := hF
  clear hF hc
  go_enter Try.func12, Try.ntmps12
  go_wp2_with fail
  refine (vnum_core w.heap.size d n c f a ok en _ hn ha hd HS.out HF.out).mono ?_
  rintro e w1 ⟨rfl, hS1, hB1⟩
  have hB : Below w.heap.size w w1 := ((Below.refl _ _).alloc (Nat.le_refl _) _).trans hB1
  obtain ⟨s0, s1, s2, s3⟩ := hS1
  clear s3 hB1 HS
  go_wp2
  go_quiet (fail)
  go_wp2
  go_ret2
  exact ⟨rfl, below_drewN hB _⟩

theorem bytes11_yes (a : Option Addr) (n c : Nat) (x : Int) (w : World) (h : n ≤ 1048576) : Calls Try.prog 11 #[.slice a n c, .int .i64 x] w fun e w' => e = .returned (.bool true) ∧ w' = w := by
  go_enter Try.func11, Try.ntmps11
  go_wp2
  go_ret
  exact ⟨rfl, rfl⟩
theorem bytes11_no (a : Option Addr) (n c : Nat) (x : Int) (w : World) (h : 1048576 < n) : Calls Try.prog 11 #[.slice a n c, .int .i64 x] w fun e w' => e = .returned (.bool false) ∧ w' = w := by
  have h1 : (1048576 : Int) < (n : Int) := by omega
  go_enter Try.func11, Try.ntmps11
  go_wp2
  go_ret
  exact ⟨rfl, rfl⟩

end Go.Proofs.Qxb6603037a.Walk
