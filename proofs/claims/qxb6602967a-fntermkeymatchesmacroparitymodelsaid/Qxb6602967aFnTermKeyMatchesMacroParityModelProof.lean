/-
  A proof of Rows.FnTermKeyMatchesMacroParityModelSaid. The frame is the guide's for this function, with 'Below' in the place of 'Grown': the builder's buffer is frozen when its string is taken. The walk is typed by hand over the contracts in Qxb6602967aKey and Qxb6602967aModel.
-/
import Derived.Test.Qxb6602967aRows
import Derived.WalkKit
import Derived.ProofKit
import Derived.OpenShut
import Derived.ShutString
import Derived.ChangeOld
import Derived.Below
import Derived.Test.Qxb6602967aModel
namespace Go.Proofs.Qxb6602967a.fnTermKeyMatchesMacroParityModel
open Go.ChangeShapes Go.WideShapes Go.ChangeAt Go.RowKit
open Go.ChangeMaps (open_string shut_string)
open Go.Proofs.Qxb6602967a.Top Go.Proofs.Qxb6602967a.Key
set_option linter.unusedVariables false      -- a walk need not use every 'w<i>' (that an integer argument fits its kind)

theorem own : ownKnob Try.prog.godebug = none := by kernel_rfl

theorem model_redirect (text : ByteArray) (w : World) :
    Calls Try.prog 18 #[.string ⟨#[114, 101, 100, 105, 114, 101, 99, 116]⟩, .string text] w fun e w' => e = .returned (.string redirectE) ∧ Below w.heap.size w w' := by
  go_enter Try.func18, Try.ntmps18
  go_wp2
  go_ret
  exact ⟨rfl, Below.refl _ _⟩
theorem model_exp (text : ByteArray) (w : World) :
    Calls Try.prog 18 #[.string ⟨#[101, 120, 112]⟩, .string text] w fun e w' => e = .returned (.string expE) ∧ Below w.heap.size w w' := by
  go_enter Try.func18, Try.ntmps18
  go_wp2
  go_ret
  exact ⟨rfl, Below.refl _ _⟩

/-- what both sides give -/
def keyOut (name text : ByteArray) : ByteArray :=
  if name.toList = [114, 101, 100, 105, 114, 101, 99, 116] then redirectE else if name.toList = [101, 120, 112] then expE else ⟨(outB (byt text) text.size).toArray⟩

theorem of_toList (s : ByteArray) (l : List UInt8) (h : s.toList = l) : s = ⟨l.toArray⟩ := by
  rw [ByteArray.toList_eq] at h
  subst h
  rfl

theorem key_any (m : Bool) (q : Int) (name arg text : ByteArray) (w : World) (hs : text.size ≤ 1048576) :
    Calls Try.prog 31 #[.agg #[.bool m, .int .i64 q, .string name, .string arg, .string text]] w fun e w' => e = .returned (.string (keyOut name text)) ∧ Below w.heap.size w w' := by
  unfold keyOut
  by_cases h1 : name.toList = [114, 101, 100, 105, 114, 101, 99, 116]
  · rw [if_pos h1]
    obtain rfl := of_toList name _ h1
    exact key_redirect m q arg text w
  · rw [if_neg h1]
    by_cases h2 : name.toList = [101, 120, 112]
    · rw [if_pos h2]
      obtain rfl := of_toList name _ h2
      exact key_exp m q arg text w
    · rw [if_neg h2]
      exact key_plain m q name arg text w hs (by simpa using h1) (by simpa using h2)

theorem model_any (name text : ByteArray) (w : World) (hs : text.size ≤ 1048576) :
    Calls Try.prog 18 #[.string name, .string text] w fun e w' => e = .returned (.string (keyOut name text)) ∧ Below w.heap.size w w' := by
  unfold keyOut
  by_cases h1 : name.toList = [114, 101, 100, 105, 114, 101, 99, 116]
  · rw [if_pos h1]
    obtain rfl := of_toList name _ h1
    exact model_redirect text w
  · rw [if_neg h1]
    by_cases h2 : name.toList = [101, 120, 112]
    · rw [if_pos h2]
      obtain rfl := of_toList name _ h2
      exact model_exp text w
    · rw [if_neg h2]
      exact model_plain name text w hs (by simpa using h1) (by simpa using h2)

theorem zz_any (m : Bool) (q : Int) (name arg text : ByteArray) (w : World) (hs : text.size ≤ 1048576) :
    Calls Try.prog 17 #[.bool m, .int .i64 q, .string name, .string arg, .string text] w fun e w' => e = .returned (.string (keyOut name text)) ∧ Below w.heap.size w w' := by
  go_enter Try.func17, Try.ntmps17
  go_wp2_with fail
  refine (key_any m q name arg text _ hs).mono ?_
  rintro e w1 ⟨rfl, hb⟩
  go_wp2
  go_ret
  exact ⟨rfl, hb⟩

theorem bytes_yes (m : Bool) (q : Int) (name arg text : ByteArray) (w : World) (h : name.size + arg.size + text.size ≤ 1048576) :
    Calls Try.prog 16 #[.bool m, .int .i64 q, .string name, .string arg, .string text] w fun e w' => e = .returned (.bool true) ∧ w' = w := by
  go_enter Try.func16, Try.ntmps16
  go_wp2
  go_ret
  exact ⟨rfl, rfl⟩
theorem bytes_no (m : Bool) (q : Int) (name arg text : ByteArray) (w : World) (h1 : name.size ≤ maxLen) (h2 : arg.size ≤ maxLen) (h3 : text.size ≤ maxLen) (h : 1048576 < name.size + arg.size + text.size) :
    Calls Try.prog 16 #[.bool m, .int .i64 q, .string name, .string arg, .string text] w fun e w' => e = .returned (.bool false) ∧ w' = w := by
  unfold maxLen at h1 h2 h3
  go_enter Try.func16, Try.ntmps16
  go_wp2
  all_goals
    go_ret
    exact ⟨rfl, rfl⟩

/-! ### STEP 1: THE WALK: the Go text returns true. -/
theorem walk (a0 : Bool) (a1 : Int) (a2 : ByteArray) (a3 : ByteArray) (a4 : ByteArray) (w1 : (Lit.int .i64 a1).wf = true) (w2 : a2.size ≤ maxLen) (w3 : a3.size ≤ maxLen) (w4 : a4.size ≤ maxLen) (w : World) :
    Calls Try.prog 6 #[.bool a0, .int .i64 a1, .string a2, .string a3, .string a4] w fun e w' => e = .returned (.bool true) ∧ Below w.heap.size w w' := by
  by_cases hb : a2.size + a3.size + a4.size ≤ 1048576
  · have hs : a4.size ≤ 1048576 := by omega
    have he : ((keyOut a2 a4).toList == (keyOut a2 a4).toList) = true := by simp
    go_enter Try.func6, Try.ntmps6
    go_wp2_with (go_at_call 16; refine (bytes_yes _ _ _ _ _ _ hb).mono ?_; rintro e w' ⟨rfl, rfl⟩)
    refine (zz_any _ _ _ _ _ _ hs).mono ?_
    rintro e w1 ⟨rfl, hb1⟩
    go_wp2_with fail
    refine (model_any _ _ _ hs).mono ?_
    rintro e w2 ⟨rfl, hb2⟩
    generalize keyOut a2 a4 = K at *
    go_wp2
    go_ret
    exact ⟨rfl, hb1.trans (hb2.mono hb1.size)⟩
  · have hb' : 1048576 < a2.size + a3.size + a4.size := by omega
    go_enter Try.func6, Try.ntmps6
    go_wp2_with (go_at_call 16; refine (bytes_no _ _ _ _ _ _ w2 w3 w4 hb').mono ?_; rintro e w' ⟨rfl, rfl⟩)
    go_ret
    exact ⟨rfl, Below.refl _ _⟩

/-! ### THE ROW's STEP: WRITTEN OUT: LEAVE IT -/
set_option maxRecDepth 100000 in
theorem lifted (os : Os) (started : os.Started) (H : Type) (enc : TypeId × Value → H) :
    ReturnsInHanded {} Try.checked os 6 .any (Rows.fnTermKeyMatchesMacroParityModelSpec.pre6 enc Try.prog Try.f6 Rows.fnTermKeyMatchesMacroParityModelRow.domain false) (Rows.fnTermKeyMatchesMacroParityModelSpec.post enc Try.prog Try.f6 false true false false) := by
  refine returnsInHanded_of_change (C := Try.checked) own started (by kernel_rfl) Try.func6
    (ChangeSpec.witness6 (enc := enc) (C := Try.checked) false ⟨#[], #[.bool false, .int .i64 0, .string ByteArray.empty, .string ByteArray.empty, .string ByteArray.empty], []⟩ 8 (by kernel_rfl) (by kernel_rfl) (by kernel_rfl) (by kernel_rfl)) ?_
  intro W base args ds gs before hval0 hW hcnd _
  have hval : ∀ (j : Nat) t v, Try.f6.params[j]? = some t → args[j]? = some v → Value.okWide Try.prog W .any base t v := hval0
  have hW' := hW
  obtain ⟨p, q, hA0, hV, rfl, hfz, hnd⟩ := hW
  have hA : DataW.TrodAll enc Try.prog W 0 (fun _ => true) true Try.f6.params.toList args.toList ds p := hA0
  rw [Try.params6] at hA hval
  obtain ⟨v0, vs0, d0, ds0, p0, q0, hargs, rfl, rfl, h0, r0⟩ := trodAll_cons hA
  obtain ⟨v1, vs1, d1, ds1, p1, q1, rfl, rfl, rfl, h1, r1⟩ := trodAll_cons r0
  obtain ⟨v2, vs2, d2, ds2, p2, q2, rfl, rfl, rfl, h2, r2⟩ := trodAll_cons r1
  obtain ⟨v3, vs3, d3, ds3, p3, q3, rfl, rfl, rfl, h3, r3⟩ := trodAll_cons r2
  obtain ⟨v4, vs4, d4, ds4, p4, q4, rfl, rfl, rfl, h4, r4⟩ := trodAll_cons r3
  obtain ⟨rfl, rfl, rfl⟩ := trodAll_nil r4
  obtain rfl : args = #[v0, v1, v2, v3, v4] := by cases args; simp_all
  obtain ⟨rfl, rfl⟩ := trodVars_none hV
  obtain ⟨a0, rfl, rfl, rfl⟩ := open_bool Try.underlying4 (hval 0 4 v0 rfl rfl) h0
  obtain ⟨a1, rfl, rfl, rfl, w1⟩ := open_int Try.underlying3 (hval 1 3 v1 rfl rfl) h1
  obtain ⟨a2, rfl, rfl, rfl, w2⟩ := open_string Try.underlying9 (hval 2 9 v2 rfl rfl) h2
  obtain ⟨a3, rfl, rfl, rfl, w3⟩ := open_string Try.underlying9 (hval 3 9 v3 rfl rfl) h3
  obtain ⟨a4, rfl, rfl, rfl, w4⟩ := open_string Try.underlying9 (hval 4 9 v4 rfl rfl) h4
  clear hA0 hval0
  simp only [List.append_nil] at hW'
  refine (walk a0 a1 a2 a3 a4 w1 w2 w3 w4 W).mono fun e W' ⟨he, hg⟩ => ?_
  subst he
  exact ⟨_, rfl, _, _, _, [], _, [], hW', trodAll_mk1 (shut_bool Try.underlying4 _), (trodAll_cons_mk (shut_bool Try.underlying4 _) (trodAll_cons_mk (shut_int Try.underlying3 w1) (trodAll_cons_mk (shut_string Try.underlying9 w2) (trodAll_cons_mk (shut_string Try.underlying9 w3) (trodAll_cons_mk (shut_string Try.underlying9 w4) trodAll_mk0))))), rfl, hg.frame _, fun h => by cases h⟩

theorem over : Rows.fnTermKeyMatchesMacroParityModelRow.holds Try.pinned (OpenSpec.ofChange Rows.fnTermKeyMatchesMacroParityModelSpec) :=
  OpenClaim.holds_of_wide 6 Try.f6 rfl rfl rfl rfl rfl rfl rfl ⟨rfl, rfl, rfl, rfl, rfl⟩ rfl rfl rfl rfl rfl (by kernel_rfl) Try.func6 (by kernel_rfl)
    (of_decide_eq_true (by kernel_rfl)) (by unfold Func.isWrapper; first | (rw [if_pos (by decide +kernel)]; kernel_rfl) | (rw [if_neg (by decide +kernel)]; exact ⟨rfl, rfl⟩))
    (fun os started H enc _ => lifted os started H enc)

/-- ████ THE STATEMENT ████ -/
theorem proved : Rows.FnTermKeyMatchesMacroParityModelSaid :=
  over
#print axioms proved
end Go.Proofs.Qxb6602967a.fnTermKeyMatchesMacroParityModel
