/-
  A proof of Rows.FnValueMatchesPushdownParserSaid. The frame is the guide's for this function; the walk is typed by hand over the contracts in the texts that it imports.
-/
import Derived.Test.Qxb6603037aRows
import Derived.WalkKit
import Derived.ProofKit
import Derived.OpenShut
import Derived.ShutString
import Derived.ChangeOld
import Derived.Below
import Derived.Test.Qxb6603037aValLaw
namespace Go.Proofs.Qxb6603037a.fnValueMatchesPushdownParser
open Go.ChangeShapes Go.WideShapes Go.ChangeAt Go.RowKit
open Go.ChangeMaps (open_string shut_string)
open Go.Proofs.Qxb6603037a.Walk
open Go.Proofs.Qxb6603037a.Val (W W_le Done endB)
set_option linter.unusedVariables false

theorem own : ownKnob Try.prog.godebug = none := by kernel_rfl
theorem laidOut : laidOutB Try.prog = true := by kernel_rfl

/-- WHAT THE WALK IS TOLD OF A SLICE OF INTEGERS THAT CAME IN: it is nil; or it leads to a row of 'cap' cells, the numbers 'zs' (the first 'len' are its elements, the rest its spare room), each fitting its kind. -/
def IsRow (k : IntKind) (w : World) (a : Option Addr) (len cap : Nat) (zs : List Int) : Prop :=
  (a = none ∧ len = 0 ∧ cap = 0 ∧ zs = []) ∨
  ∃ x, a = some x ∧ len ≤ cap ∧ cap ≤ maxLen ∧ zs.length = cap ∧ (∀ i, i < zs.length → w.cell? (x.add i) = some (.int k (zs.getD i 0))) ∧ ∀ n ∈ zs, (Lit.int k n).wf = true

/-- What the rest of the walk is told of a slice that has elements. -/
theorem row_cells {w : World} {a : Option Addr} {len cap : Nat} {zs : List Int} (h : IsRow .u8 w a len cap zs) (hl : 0 < len) :
    ∃ b o, a = some ⟨b, o, none⟩ ∧ b < w.heap.size ∧ ∀ j, j < len → w.cell? ⟨b, o + j, none⟩ = some (.int .u8 (zs.getD j 0)) := by
  rcases h with ⟨_, h0, _, _⟩ | ⟨x, rfl, h1, _, h3, hcell, _⟩
  · omega
  · obtain ⟨b, o, spot⟩ := x
    have hs : spot = none := by simpa [Addr.add] using World.cell?_spot (hcell 0 (by omega))
    subst hs
    have hc : ∀ j, j < len → w.cell? ⟨b, o + j, none⟩ = some (.int .u8 (zs.getD j 0)) := fun j hj => by
      have := hcell j (by omega)
      rwa [add_plain] at this
    refine ⟨b, o, rfl, ?_, hc⟩
    have h0 := hc 0 hl
    rcases Nat.lt_or_ge b w.heap.size with h | h
    · exact h
    · simp [World.cell?, Array.getElem?_eq_none h] at h0

/-- No element: the parser finds no value. -/
theorem walk_zero (a0 : Option Addr) (cap0 : Nat) (h0 : a0 = none → cap0 = 0) (w : World) :
    Calls Try.prog 5 #[.slice a0 0 cap0, .int .i64 0] w fun e w' => e = .returned (.bool true) ∧ Below w.heap.size w w' := by
  cases a0 with
  | none =>
    obtain rfl := h0 rfl
    go_enter Try.func5, Try.ntmps5
    go_wp2_with (first
      | (go_at_call 14; refine (bytes14_yes _ _ _ _ _ (by omega)).mono ?_; rintro e w' ⟨rfl, rfl⟩)
      | (go_at_call 8; refine (clone_nil _).mono ?_; rintro e w' ⟨rfl, rfl⟩)
      | (go_at_call 15; refine (skipws_zero _ _).mono ?_; rintro e w' ⟨rfl, rfl⟩)
      | (go_at_call 16; refine (parse_zero _ _).mono ?_; rintro e w1 ⟨rfl, hb1⟩))
    go_ret
    exact ⟨rfl, hb1⟩
  | some x =>
    go_enter Try.func5, Try.ntmps5
    go_wp2_with (first | (go_at_call 14; refine (bytes14_yes _ _ _ _ _ (by omega)).mono ?_; rintro e w' ⟨rfl, hw⟩; obtain rfl := hw.symm) | (go_at_call 8; fail))
    refine (clone_empty x cap0 _).mono ?_
    rintro e w1 ⟨rfl, hb1⟩
    go_wp2_with (first
      | (go_at_call 15; refine (skipws_zero _ _).mono ?_; rintro e w' ⟨rfl, hw⟩; obtain rfl := hw.symm)
      | (go_at_call 16; fail))
    refine (parse_zero _ _).mono ?_
    rintro e w2 ⟨rfl, hb2⟩
    go_wp2
    go_ret
    exact ⟨rfl, hb1.trans (hb2.mono hb1.size)⟩

set_option maxHeartbeats 1000000 in
/-- At least one element, the index within the slice or at its end. -/
theorem walk_some (b o len0 cap0 : Nat) (z : Nat → Int) (a : Nat) (w : World) (hb : len0 ≤ 1048576) (hpos : 0 < len0) (ha : a ≤ len0) (hbl : b < w.heap.size) (hcell : ∀ j, j < len0 → w.cell? ⟨b, o + j, none⟩ = some (.int .u8 (z j))) :
    Calls Try.prog 5 #[.slice (some ⟨b, o, none⟩) len0 cap0, .int .i64 a] w fun e w' => e = .returned (.bool true) ∧ Below w.heap.size w w' := by
  have HC : Hid _ := hcell
  clear hcell
  go_enter Try.func5, Try.ntmps5
  go_wp2_with (first | (go_at_call 14; refine (bytes14_yes _ _ _ _ _ hb).mono ?_; rintro e w' ⟨rfl, hw⟩; obtain rfl := hw.symm) | (go_at_call 8; fail))
  refine (clone_any b o len0 cap0 z _ hb HC.out hbl).mono ?_
  rintro e w1 ⟨rfl, hrow, hb1⟩
  have hlt := hrow.lt
  have HC1 : Hid (∀ j, j < len0 → w1.cell? ⟨w.heap.size, j, none⟩ = some (.int .u8 (z j))) := fun j hj => hrow.cell hj
  clear hrow HC
  go_wp2_with fail
  refine (skipws_any w.heap.size len0 len0 z _ a rfl _ hb ha HC1.out).mono ?_
  rintro e w2 ⟨rfl, hw⟩
  obtain rfl := hw.symm
  have hWl := W_le z len0 a ha
  obtain ⟨s, hs⟩ : ∃ s, W z len0 a = s := ⟨_, rfl⟩
  rw [hs] at hWl ⊢
  have HW : Hid (W z len0 a = s) := hs
  clear hs
  go_wp2_with fail
  refine (parse_core w.heap.size len0 len0 z s _ hb hWl.2 hlt HC1.out).mono ?_
  rintro e w2 ⟨r, rfl, hb2, hr⟩
  have hB2 : Below w.heap.size w w2 := hb1.trans (hb2.mono hb1.size)
  rcases hr with rfl | ⟨m, rfl, hD⟩
  · go_wp2
    go_ret
    exact ⟨rfl, hB2⟩
  · have h1 := hD.1
    have h2 := hD.2.1
    have h3 := hD.2.2.1
    have HD : Hid (Done z len0 s m) := hD
    have hlt2 : w.heap.size < w2.heap.size := by have := hb2.size; omega
    have HC2 : Hid (∀ j, j < len0 → w2.cell? ⟨w.heap.size, j, none⟩ = some (.int .u8 (z j))) := fun j hj => by
      rw [hb2.cell (p := ⟨w.heap.size, j, none⟩) hlt]; exact HC1.out j hj
    clear hD HC1 hb2 hb1
    have rest : ∀ (hfol : m < len0 → endB (z m) = true), Hid (Calls Try.prog 18 #[.slice (some ⟨w.heap.size, 0, none⟩) len0 len0, .int .i64 a] w2 fun r w' => r = .returned (.tuple #[.slice (some ⟨w.heap.size, s, none⟩) (m - s) (len0 - s), .int .i64 m]) ∧ Below w2.heap.size w2 w') := fun hfol =>
      zzval_any w.heap.size len0 len0 z a s m w2 hb (Nat.le_refl _) hb ha hlt2 HC2.out HW.out HD.out hfol
    have heq : ((m : Int) == (m : Int)) = true := by simp
    by_cases hm : m < len0
    · have hcm := HC2.out m hm
      cases hE : endB (z m) with
      | false =>
        clear rest
        go_wp2_with (go_at_call 17; refine (follow_any _ _).mono ?_; rintro e w' ⟨rfl, hw⟩; obtain rfl := hw.symm)
        go_ret
        exact ⟨rfl, hB2⟩
      | true =>
        have HR := rest fun _ => hE
        clear rest
        go_wp2_with (first | (go_at_call 17; refine (follow_any _ _).mono ?_; rintro e w' ⟨rfl, hw⟩; obtain rfl := hw.symm) | (go_at_call 18; fail))
        refine HR.out.mono ?_
        rintro e w3 ⟨rfl, hb3⟩
        have HC3 : Hid (∀ j, j < m - s → w3.cell? ⟨w.heap.size, s + j, none⟩ = some (.int .u8 (z (s + j)))) := fun j hj => by
          rw [hb3.cell (p := ⟨w.heap.size, s + j, none⟩) hlt2]; exact HC2.out (s + j) (by omega)
        have hB3 : Below w.heap.size w w3 := hB2.trans (hb3.mono hB2.size)
        clear hcm HR
        go_wp2_with fail
        refine (same_any w.heap.size s (m - s) _ _ (fun j => z (s + j)) _ (by omega) HC3.out).mono ?_
        rintro e w4 ⟨rfl, q, hw4⟩
        subst hw4
        go_wp2
        go_ret
        exact ⟨rfl, below_drewN hB3 _⟩
    · have HR := rest fun h => absurd h hm
      clear rest
      go_wp2_with fail
      refine HR.out.mono ?_
      rintro e w3 ⟨rfl, hb3⟩
      have HC3 : Hid (∀ j, j < m - s → w3.cell? ⟨w.heap.size, s + j, none⟩ = some (.int .u8 (z (s + j)))) := fun j hj => by
        rw [hb3.cell (p := ⟨w.heap.size, s + j, none⟩) hlt2]; exact HC2.out (s + j) (by omega)
      have hB3 : Below w.heap.size w w3 := hB2.trans (hb3.mono hB2.size)
      clear HR
      go_wp2_with fail
      refine (same_any w.heap.size s (m - s) _ _ (fun j => z (s + j)) _ (by omega) HC3.out).mono ?_
      rintro e w4 ⟨rfl, q, hw4⟩
      subst hw4
      go_wp2
      go_ret
      exact ⟨rfl, below_drewN hB3 _⟩

/-! ### STEP 1: THE WALK: the Go text returns true, and writes nothing that was there. -/
theorem walk (a0 : Option Addr) (len0 cap0 : Nat) (z0 : List Int) (a1 : Int) (w : World) (w0 : IsRow .u8 w a0 len0 cap0 z0) (w1 : (Lit.int .i64 a1).wf = true) :
    Calls Try.prog 5 #[.slice a0 len0 cap0, .int .i64 a1] w fun e w' => e = .returned (.bool true) ∧ Below w.heap.size w w' := by
  by_cases hb : len0 ≤ 1048576
  · by_cases hneg : a1 < 0
    · go_enter Try.func5, Try.ntmps5
      go_wp2_with (go_at_call 14; refine (bytes14_yes _ _ _ _ _ hb).mono ?_; rintro e w' ⟨rfl, rfl⟩)
      go_ret
      exact ⟨rfl, Below.refl _ _⟩
    · by_cases hat : a1 ≤ len0
      · obtain ⟨a, rfl⟩ : ∃ a : Nat, a1 = (a : Int) := ⟨a1.toNat, by omega⟩
        have ha : a ≤ len0 := by omega
        by_cases hpos : 0 < len0
        · obtain ⟨b, o, rfl, hbl, hcell⟩ := row_cells w0 hpos
          exact walk_some b o len0 cap0 (fun j => z0.getD j 0) a w hb hpos ha hbl hcell
        · obtain rfl : len0 = 0 := by omega
          obtain rfl : a = 0 := by omega
          refine walk_zero a0 cap0 (fun h => ?_) w
          rcases w0 with ⟨_, _, h2, _⟩ | ⟨x, h1, _⟩
          · exact h2
          · rw [h] at h1; cases h1
      · have hat' : (len0 : Int) < a1 := by omega
        go_enter Try.func5, Try.ntmps5
        go_wp2_with (go_at_call 14; refine (bytes14_yes _ _ _ _ _ hb).mono ?_; rintro e w' ⟨rfl, rfl⟩)
        go_ret
        exact ⟨rfl, Below.refl _ _⟩
  · have hb' : 1048576 < len0 := by omega
    go_enter Try.func5, Try.ntmps5
    go_wp2_with (go_at_call 14; refine (bytes14_no _ _ _ _ _ hb').mono ?_; rintro e w' ⟨rfl, rfl⟩)
    go_ret
    exact ⟨rfl, Below.refl _ _⟩

/-! ### THE ROW's STEP: WRITTEN OUT: LEAVE IT -/
set_option maxRecDepth 100000 in
theorem lifted (os : Os) (started : os.Started) (H : Type) (enc : TypeId × Value → H) :
    ReturnsInHanded {} Try.checked os 5 .any (Rows.fnValueMatchesPushdownParserSpec.pre6 enc Try.prog Try.f5 Rows.fnValueMatchesPushdownParserRow.domain false) (Rows.fnValueMatchesPushdownParserSpec.post enc Try.prog Try.f5 false true false false) := by
  refine returnsInHanded_of_change (C := Try.checked) own started (by kernel_rfl) Try.func5
    (ChangeSpec.witness6 (enc := enc) (C := Try.checked) false ⟨#[], #[.slice none 0 0, .int .i64 0], []⟩ 8 (by kernel_rfl) (by kernel_rfl) (by kernel_rfl) (by kernel_rfl)) ?_
  intro W base args ds gs before hval0 hW hcnd _
  have hval : ∀ (j : Nat) t v, Try.f5.params[j]? = some t → args[j]? = some v → Value.okWide Try.prog W .any base t v := hval0
  have hW' := hW
  obtain ⟨p, q, hA0, hV, rfl, hfz, hnd⟩ := hW
  have hA : DataW.TrodAll enc Try.prog W 0 (fun _ => true) true Try.f5.params.toList args.toList ds p := hA0
  rw [Try.params5] at hA hval
  obtain ⟨v0, vs0, d0, ds0, p0, q0, hargs, rfl, rfl, h0, r0⟩ := trodAll_cons hA
  obtain ⟨v1, vs1, d1, ds1, p1, q1, rfl, rfl, rfl, h1, r1⟩ := trodAll_cons r0
  obtain ⟨rfl, rfl, rfl⟩ := trodAll_nil r1
  obtain rfl : args = #[v0, v1] := by cases args; simp_all
  obtain ⟨rfl, rfl⟩ := trodVars_none hV
  obtain ⟨a0, len0, cap0, rfl⟩ := okWide_slice Try.underlying22 (hval 0 22 v0 rfl rfl)
  have k0 := h0
  have lt0 : ∀ x ∈ p0, x.block < W.heap.size := by obtain ⟨m, hm⟩ := k0; exact DataW.trod_lt m _ _ _ hm
  obtain ⟨z0, w0⟩ : ∃ zs, IsRow .u8 W a0 len0 cap0 zs := by
    obtain ⟨fuel, hf⟩ := h0
    rcases open_ints Try.underlying22 Try.underlying5 (by kernel_rfl) hf with ⟨hcs, _⟩ | ⟨x, l, c, zs, hcs, _, hl, hm, hz, _, hcell, hwz⟩
    · simp [Value.cells] at hcs
      obtain ⟨rfl, rfl, rfl⟩ := hcs
      exact ⟨[], .inl ⟨rfl, rfl, rfl, rfl⟩⟩
    · simp [Value.cells] at hcs
      obtain ⟨rfl, rfl, rfl⟩ := hcs
      exact ⟨zs, .inr ⟨_, rfl, hl, hm, by simpa using hz, hcell, hwz⟩⟩
  obtain ⟨a1, rfl, rfl, rfl, w1⟩ := open_int Try.underlying3 (hval 1 3 v1 rfl rfl) h1
  clear hA0 hval0
  refine (walk a0 len0 cap0 z0 a1 W w0 w1).mono fun e W' ⟨he, bel⟩ => ?_
  subst he
  exact ⟨_, rfl, _, _, _, [], _, [], hW', trodAll_mk1 (shut_bool Try.underlying4 _), (trodAll_cons_mk (Below.trod laidOut (by kernel_rfl) (of_decide_eq_true (by kernel_rfl)) k0 bel lt0) (trodAll_cons_mk (shut_int Try.underlying3 w1) trodAll_mk0)), rfl, bel.frame _, fun h => by cases h⟩

theorem over : Rows.fnValueMatchesPushdownParserRow.holds Try.pinned (OpenSpec.ofChange Rows.fnValueMatchesPushdownParserSpec) :=
  OpenClaim.holds_of_wide 5 Try.f5 rfl rfl rfl rfl rfl rfl rfl ⟨rfl, rfl, rfl, rfl, rfl⟩ rfl rfl rfl rfl rfl (by kernel_rfl) Try.func5 (by kernel_rfl)
    (of_decide_eq_true (by kernel_rfl)) (by unfold Func.isWrapper; first | (rw [if_pos (by decide +kernel)]; kernel_rfl) | (rw [if_neg (by decide +kernel)]; exact ⟨rfl, rfl⟩))
    (fun os started H enc _ => lifted os started H enc)

/-- ████ THE STATEMENT ████ -/
theorem proved : Rows.FnValueMatchesPushdownParserSaid := over
#print axioms proved
end Go.Proofs.Qxb6603037a.fnValueMatchesPushdownParser
