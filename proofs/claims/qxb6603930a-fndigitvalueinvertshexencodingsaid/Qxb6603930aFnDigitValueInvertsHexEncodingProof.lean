/-
  A proof of Rows.FnDigitValueInvertsHexEncodingSaid. The frame is the guide's for this function; the walk is typed by hand over the contracts in Qxb6603930aDigit and Qxb6603930aTable.
-/
import Derived.Test.Qxb6603930aRows
import Derived.WalkKit
import Derived.ProofKit
import Derived.OpenShut
import Derived.ShutString
import Derived.Test.Qxb6603930aTable
namespace Go.Proofs.Qxb6603930a.fnDigitValueInvertsHexEncoding
open Go.ChangeShapes Go.WideShapes Go.ChangeAt Go.RowKit
open Go.ChangeMaps (open_string shut_string)
open Go.Proofs.Qxb6603930a.Digit
set_option linter.unusedVariables false      -- a walk need not use every 'w<i>' (that an integer argument fits its kind)

theorem own : ownKnob Try.prog.godebug = none := by kernel_rfl

/-! ### STEP 1: THE WALK: the Go text returns true. 'Grown w w'': the world has at most new blocks (Derived/RowKit3.lean). Part the cases AHEAD of 'go_enter' where a test parts the walk; take each callee by a contract of your own. -/
theorem walk (a0 : Int) (a1 : Bool) (w0 : (Lit.int .i64 a0).wf = true) (w : World) :
    Calls Try.prog 4 #[.int .i64 a0, .bool a1] w fun e w' => e = .returned (.bool true) ∧ Grown w w' := by
  clear w0
  by_cases h0 : a0 < 0
  · go_enter Try.func4, Try.ntmps4
    go_wp2
    go_ret
    exact ⟨rfl, Grown.refl _⟩
  · by_cases h15 : 15 < a0
    · go_enter Try.func4, Try.ntmps4
      go_wp2
      go_ret
      exact ⟨rfl, Grown.refl _⟩
    · have fin : (Calls Try.prog 4 #[.int .i64 a0, .bool a1] w fun e w' => e = .returned (.bool true) ∧ w' = w) := by
        by_cases h10 : a0 < 10
        · exact inv_of a0 (48 + a0) w a1 (by omega) (by omega) (by omega) (by omega) (by unfold dv; rw [if_pos (by omega)]; omega) (fun w => enc_low a0 w a1 (by omega) h10)
        · cases a1 with
          | true => exact inv_of a0 (65 + a0 - 10) w true (by omega) (by omega) (by omega) (by omega) (by unfold dv; rw [if_neg (by omega), if_neg (by omega), if_pos (by omega)]; omega) (fun w => enc_up a0 w (by omega) (by omega))
          | false => exact inv_of a0 (97 + a0 - 10) w false (by omega) (by omega) (by omega) (by omega) (by unfold dv; rw [if_neg (by omega), if_pos (by omega)]; omega) (fun w => enc_lo a0 w (by omega) (by omega))
      refine fin.mono ?_
      rintro e w' ⟨rfl, rfl⟩
      exact ⟨rfl, Grown.refl _⟩

/-! ### THE ROW's STEP: WRITTEN OUT: LEAVE IT -/
set_option maxRecDepth 100000 in
theorem lifted (os : Os) (started : os.Started) (H : Type) (enc : TypeId × Value → H) :
    ReturnsInHanded {} Try.checked os 4 .any (Rows.fnDigitValueInvertsHexEncodingSpec.pre6 enc Try.prog Try.f4 Rows.fnDigitValueInvertsHexEncodingRow.domain false) (Rows.fnDigitValueInvertsHexEncodingSpec.post enc Try.prog Try.f4 false true false false) := by
  refine returnsInHanded_of_change (C := Try.checked) own started (by kernel_rfl) Try.func4
    (ChangeSpec.witness6 (enc := enc) (C := Try.checked) false ⟨#[], #[.int .i64 0, .bool false], []⟩ 8 (by kernel_rfl) (by kernel_rfl) (by kernel_rfl) (by kernel_rfl)) ?_
  intro W base args ds gs before hval0 hW hcnd _
  have hval : ∀ (j : Nat) t v, Try.f4.params[j]? = some t → args[j]? = some v → Value.okWide Try.prog W .any base t v := hval0
  have hW' := hW
  obtain ⟨p, q, hA0, hV, rfl, hfz, hnd⟩ := hW
  have hA : DataW.TrodAll enc Try.prog W 0 (fun _ => true) true Try.f4.params.toList args.toList ds p := hA0
  rw [Try.params4] at hA hval
  obtain ⟨v0, vs0, d0, ds0, p0, q0, hargs, rfl, rfl, h0, r0⟩ := trodAll_cons hA
  obtain ⟨v1, vs1, d1, ds1, p1, q1, rfl, rfl, rfl, h1, r1⟩ := trodAll_cons r0
  obtain ⟨rfl, rfl, rfl⟩ := trodAll_nil r1
  obtain rfl : args = #[v0, v1] := by cases args; simp_all
  obtain ⟨rfl, rfl⟩ := trodVars_none hV
  obtain ⟨a0, rfl, rfl, rfl, w0⟩ := open_int Try.underlying3 (hval 0 3 v0 rfl rfl) h0
  obtain ⟨a1, rfl, rfl, rfl⟩ := open_bool Try.underlying4 (hval 1 4 v1 rfl rfl) h1
  clear hA0 hval0
  simp only [List.append_nil] at hW'
  refine (walk a0 a1 w0 W).mono fun e W' ⟨he, hg⟩ => ?_
  subst he
  exact ⟨_, rfl, post_of_same (pa := []) (pv := []) hW' (fun _ _ _ => (trodAll_cons_mk (shut_bool Try.underlying4 _) trodAll_mk0)) (fun sp _ => (trodAll_cons_mk (shut_int Try.underlying3 w0) (trodAll_cons_mk (shut_bool Try.underlying4 _) trodAll_mk0))) (fun _ _ => rfl) rfl
    (hg.frame _) hg.2.1 (ok_one (by kernel_rfl) rfl (okWide_bool_mk Try.underlying4 _))⟩

theorem over : Rows.fnDigitValueInvertsHexEncodingRow.holds Try.pinned (OpenSpec.ofChange Rows.fnDigitValueInvertsHexEncodingSpec) :=
  OpenClaim.holds_of_wide 4 Try.f4 rfl rfl rfl rfl rfl rfl rfl ⟨rfl, rfl, rfl, rfl, rfl⟩ rfl rfl rfl rfl rfl (by kernel_rfl) Try.func4 (by kernel_rfl)
    (of_decide_eq_true (by kernel_rfl)) (by unfold Func.isWrapper; first | (rw [if_pos (by decide +kernel)]; kernel_rfl) | (rw [if_neg (by decide +kernel)]; exact ⟨rfl, rfl⟩))
    (fun os started H enc _ => lifted os started H enc)

/-- ████ THE STATEMENT ████ -/
theorem proved : Rows.FnDigitValueInvertsHexEncodingSaid :=
  over
#print axioms proved
end Go.Proofs.Qxb6603930a.fnDigitValueInvertsHexEncoding
