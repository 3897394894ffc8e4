import Derived.Test.Qxb6603037aStack
import Derived.Test.Qxb6603037aOpen
import Derived.Test.Qxb6603037aStrLaw
set_option linter.unusedVariables false
namespace Go.Proofs.Qxb6603037a.Walk
open Go.RowKit
open Go.Proofs.Qxb6603037a.Str (V V_le)
open Go.Proofs.Qxb6603037a.Val

/-- 'value' where a value lies that ends as it may. -/
theorem value_any (b d n c : Nat) (f : Nat → Int) (a s e : Nat) (w : World) (hn : n ≤ 1048576) (hnc : n ≤ c) (hcm : c ≤ 1048576) (ha : a ≤ n) (hd : d < b) (hS : Scan b d n c f a w) (hW : W f n a = s) (hD : Done f n s e) (hfol : e < n → endB (f e) = true) :
    Calls Try.prog 31 #[.pointer (some ⟨b, 0, none⟩)] w fun r w' => r = .returned (.slice (some ⟨d, s, none⟩) (e - s) (c - s)) ∧ Scan b d n c f e w' ∧ Below b w w' := by
  obtain ⟨h1, h2, h3, h4⟩ := hD
  rcases h4 with ⟨h34, hV⟩ | ⟨ho, hP⟩ | ⟨h34, ho, hall⟩
  · exact value_str b d n c f a s e w hn hnc hcm ha hd hS hW h1 h2 h3 h34 hV
  · exact value_open b d n c f a s e w hn hnc hcm ha hd hS hW h1 h2 h3 ho hP
  · exact value_lit b d n c f a s e w hn hnc hcm ha hd hS hW h1 h2 h3 h34 ho hall hfol

set_option maxHeartbeats 400000 in
theorem zzval_any (d n c : Nat) (f : Nat → Int) (a s e : Nat) (w : World) (hn : n ≤ 1048576) (hnc : n ≤ c) (hcm : c ≤ 1048576) (ha : a ≤ n) (hd : d < w.heap.size) (hc : ∀ j, j < n → w.cell? ⟨d, j, none⟩ = some (.int .u8 (f j))) (hW : W f n a = s) (hD : Done f n s e) (hfol : e < n → endB (f e) = true) :
    Calls Try.prog 18 #[.slice (some ⟨d, 0, none⟩) n c, .int .i64 a] w fun r w' => r = .returned (.tuple #[.slice (some ⟨d, s, none⟩) (e - s) (c - s), .int .i64 e]) ∧ Below w.heap.size w w' := by
  have HS : Hid (Scan w.heap.size d n c f a (w.alloc (.cells #[.slice (some ⟨d, 0, none⟩) n c, .int .i64 a] 34))) := scan_new hd hc
  have HW : Hid (W f n a = s) := hW
  have HD : Hid (Done f n s e) := hD
  have HF : Hid _ := hfol
  clear hc hW hD hfol
  go_enter Try.func18, Try.ntmps18
  go_wp2_with fail
  refine (value_any w.heap.size d n c f a s e _ hn hnc hcm ha hd HS.out HW.out HD.out HF.out).mono ?_
  rintro r w1 ⟨rfl, hS1, hB1⟩
  have hB : Below w.heap.size w w1 := ((Below.refl _ _).alloc (Nat.le_refl _) _).trans hB1
  obtain ⟨s0, s1, s2, s3⟩ := hS1
  clear s3 hB1 HS
  go_wp2
  go_quiet (fail)
  go_wp2
  go_ret2
  exact ⟨rfl, below_drewN hB _⟩

set_option maxHeartbeats 400000 in
/-- 'bytesEqual' of two slices over the same bytes. -/
theorem same_any (d s m c1 c2 : Nat) (f : Nat → Int) (w : World) (hm : m ≤ 1048576) (hc : ∀ j, j < m → w.cell? ⟨d, s + j, none⟩ = some (.int .u8 (f j))) :
    Calls Try.prog 19 #[.slice (some ⟨d, s, none⟩) m c1, .slice (some ⟨d, s, none⟩) m c2] w fun r w' => r = .returned (.bool true) ∧ ∃ q, w' = w.drewN q := by
  have HC : Hid _ := hc
  have hne : ((m : Int) != (m : Int)) = false := by simp
  clear hc
  go_enter Try.func19, Try.ntmps19
  go_wp2
  go_loopg [5] m (fun gk i wr => ∃ k : Nat, k ≤ m ∧ m - k ≤ gk ∧ i = .int .i64 k ∧ ∃ q, wr = w.drewN q)
  case atStart => exact ⟨0, Nat.zero_le _, by omega, rfl, 0, rfl⟩
  case round =>
    obtain ⟨k, hk, hgk, rfl, q, rfl⟩ := hrel
    by_cases hlt : k < m
    · have hck := HC.out k hlt
      have hkl : (k : Int) < (m : Int) := by omega
      have hnb : (f k != f k) = false := by simp
      go_wp2
      go_quiet (fail)
      go_wp2
      go_roundg (m - (k + 1))
      case measure => omega
      case rel => exact ⟨k + 1, by omega, by omega, by go_num, _, by first | rfl | rw [World.drewN_drewN]⟩
    · go_wp2
      go_ret
      exact ⟨rfl, q, rfl⟩

theorem bytes14_yes (a : Option Addr) (n c : Nat) (x : Int) (w : World) (h : n ≤ 1048576) : Calls Try.prog 14 #[.slice a n c, .int .i64 x] w fun e w' => e = .returned (.bool true) ∧ w' = w := by
  go_enter Try.func14, Try.ntmps14
  go_wp2
  go_ret
  exact ⟨rfl, rfl⟩
theorem bytes14_no (a : Option Addr) (n c : Nat) (x : Int) (w : World) (h : 1048576 < n) : Calls Try.prog 14 #[.slice a n c, .int .i64 x] w fun e w' => e = .returned (.bool false) ∧ w' = w := by
  have h1 : (1048576 : Int) < (n : Int) := by omega
  go_enter Try.func14, Try.ntmps14
  go_wp2
  go_ret
  exact ⟨rfl, rfl⟩

theorem skipws_zero (a : Option Addr) (w : World) : Calls Try.prog 15 #[.slice a 0 0, .int .i64 0] w fun e w' => e = .returned (.int .i64 0) ∧ w' = w := by
  go_enter Try.func15, Try.ntmps15
  go_wp2
  go_loopg [1] 0 (fun gk i wr => i = .int .i64 0 ∧ wr = w)
  case atStart => exact ⟨rfl, rfl⟩
  case round =>
    obtain ⟨rfl, rfl⟩ := hrel
    go_wp2
    go_ret
    exact ⟨rfl, rfl⟩

set_option maxRecDepth 100000 in
theorem parse_zero (a : Option Addr) (w : World) : Calls Try.prog 16 #[.slice a 0 0, .int .i64 0] w fun e w' => e = .returned (.int .i64 (-1)) ∧ Below w.heap.size w w' := by
  have hmk := info5'
  go_enter Try.func16, Try.ntmps16
  go_wp2
  clear hmk
  go_loopg [1] 0 (fun gk i wr => i = .int .i64 0 ∧ Below w.heap.size w wr)
  case atStart => exact ⟨rfl, (Below.refl _ _).alloc (Nat.le_refl _) _⟩
  case round =>
    obtain ⟨rfl, hwr⟩ := hrel
    go_wp2
    go_ret
    exact ⟨rfl, hwr⟩

end Go.Proofs.Qxb6603037a.Walk
