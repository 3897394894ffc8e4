/-
  A proof of Rows.FnAssignOpDropsTheEqualsSaid. The frame is the guide's for this function; the walk is typed by hand over the contracts in Qxb6603930aOps.
-/
import Derived.Test.Qxb6603930aRows
import Derived.WalkKit
import Derived.ProofKit
import Derived.OpenShut
import Derived.ShutString
import Derived.Test.Qxb6603930aOps
namespace Go.Proofs.Qxb6603930a.fnAssignOpDropsTheEquals
open Go.ChangeShapes Go.WideShapes Go.ChangeAt Go.RowKit
open Go.ChangeMaps (open_string shut_string)
open Go.Proofs.Qxb6603930a.Ops
set_option linter.unusedVariables false      -- a walk need not use every 'w<i>' (that an integer argument fits its kind)

theorem own : ownKnob Try.prog.godebug = none := by kernel_rfl

theorem grown_drewN (w : World) (q : Nat) : Grown w (w.drewN q) := Grown.refl w
theorem lift_drew {x : Int} {w : World} (h : Calls Try.prog 5 #[.int .i64 x] w fun e w' => e = .returned (.bool true) ∧ ∃ q, w' = w.drewN q) :
    Calls Try.prog 5 #[.int .i64 x] w fun e w' => e = .returned (.bool true) ∧ Grown w w' := by
  refine h.mono ?_
  rintro e w' ⟨rfl, q, rfl⟩
  exact ⟨rfl, grown_drewN w q⟩

/-! ### STEP 1: THE WALK: the Go text returns true. -/
theorem walk (a0 : Int) (w0 : (Lit.int .i64 a0).wf = true) (w : World) :
    Calls Try.prog 5 #[.int .i64 a0] w fun e w' => e = .returned (.bool true) ∧ Grown w w' := by
  by_cases h : a0 < 22 ∨ 32 < a0
  · refine (law_other a0 w h).mono ?_
    rintro e w' ⟨rfl, rfl⟩
    exact ⟨rfl, Grown.refl _⟩
  · have h11 : a0 = 22 ∨ a0 = 23 ∨ a0 = 24 ∨ a0 = 25 ∨ a0 = 26 ∨ a0 = 27 ∨ a0 = 28 ∨ a0 = 29 ∨ a0 = 30 ∨ a0 = 31 ∨ a0 = 32 := by omega
    clear h w0
    rcases h11 with rfl | rfl | rfl | rfl | rfl | rfl | rfl | rfl | rfl | rfl | rfl
    · exact lift_drew (law22 w)
    · exact lift_drew (law23 w)
    · exact lift_drew (law24 w)
    · exact lift_drew (law25 w)
    · exact lift_drew (law26 w)
    · exact lift_drew (law27 w)
    · exact lift_drew (law28 w)
    · exact lift_drew (law29 w)
    · exact lift_drew (law30 w)
    · exact lift_drew (law31 w)
    · exact lift_drew (law32 w)

/-! ### THE ROW's STEP: WRITTEN OUT: LEAVE IT -/
set_option maxRecDepth 100000 in
theorem lifted (os : Os) (started : os.Started) (H : Type) (enc : TypeId × Value → H) :
    ReturnsInHanded {} Try.checked os 5 .any (Rows.fnAssignOpDropsTheEqualsSpec.pre6 enc Try.prog Try.f5 Rows.fnAssignOpDropsTheEqualsRow.domain false) (Rows.fnAssignOpDropsTheEqualsSpec.post enc Try.prog Try.f5 false true false false) := by
  refine returnsInHanded_of_change (C := Try.checked) own started (by kernel_rfl) Try.func5
    (ChangeSpec.witness6 (enc := enc) (C := Try.checked) false ⟨#[], #[.int .i64 0], []⟩ 8 (by kernel_rfl) (by kernel_rfl) (by kernel_rfl) (by kernel_rfl)) ?_
  intro W base args ds gs before hval0 hW hcnd _
  have hval : ∀ (j : Nat) t v, Try.f5.params[j]? = some t → args[j]? = some v → Value.okWide Try.prog W .any base t v := hval0
  have hW' := hW
  obtain ⟨p, q, hA0, hV, rfl, hfz, hnd⟩ := hW
  have hA : DataW.TrodAll enc Try.prog W 0 (fun _ => true) true Try.f5.params.toList args.toList ds p := hA0
  rw [Try.params5] at hA hval
  obtain ⟨v0, vs0, d0, ds0, p0, q0, hargs, rfl, rfl, h0, r0⟩ := trodAll_cons hA
  obtain ⟨rfl, rfl, rfl⟩ := trodAll_nil r0
  obtain rfl : args = #[v0] := by cases args; simp_all
  obtain ⟨rfl, rfl⟩ := trodVars_none hV
  obtain ⟨a0, rfl, rfl, rfl, w0⟩ := open_int Try.underlying3 (hval 0 3 v0 rfl rfl) h0
  clear hA0 hval0
  simp only [List.append_nil] at hW'
  refine (walk a0 w0 W).mono fun e W' ⟨he, hg⟩ => ?_
  subst he
  exact ⟨_, rfl, post_of_same (pa := []) (pv := []) hW' (fun _ _ _ => (trodAll_cons_mk (shut_bool Try.underlying4 _) trodAll_mk0)) (fun sp _ => (trodAll_cons_mk (shut_int Try.underlying3 w0) trodAll_mk0)) (fun _ _ => rfl) rfl
    (hg.frame _) hg.2.1 (ok_one (by kernel_rfl) rfl (okWide_bool_mk Try.underlying4 _))⟩

theorem over : Rows.fnAssignOpDropsTheEqualsRow.holds Try.pinned (OpenSpec.ofChange Rows.fnAssignOpDropsTheEqualsSpec) :=
  OpenClaim.holds_of_wide 5 Try.f5 rfl rfl rfl rfl rfl rfl rfl ⟨rfl, rfl, rfl, rfl, rfl⟩ rfl rfl rfl rfl rfl (by kernel_rfl) Try.func5 (by kernel_rfl)
    (of_decide_eq_true (by kernel_rfl)) (by unfold Func.isWrapper; first | (rw [if_pos (by decide +kernel)]; kernel_rfl) | (rw [if_neg (by decide +kernel)]; exact ⟨rfl, rfl⟩))
    (fun os started H enc _ => lifted os started H enc)

/-- ████ THE STATEMENT ████ -/
theorem proved : Rows.FnAssignOpDropsTheEqualsSaid :=
  over
#print axioms proved
end Go.Proofs.Qxb6603930a.fnAssignOpDropsTheEquals
