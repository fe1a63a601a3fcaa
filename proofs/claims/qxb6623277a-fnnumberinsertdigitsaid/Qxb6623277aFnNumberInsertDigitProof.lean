/-
  THE PROOF OF 'Rows.FnNumberInsertDigitSaid': the frame as the given shell has it, but that the walk ends in 'Below' and the row's end is told limb by limb, as the shells over slices do; the walk is typed.
-/
import Derived.Test.Qxb6623277aRows
import Derived.Test.Qxb6623277aNum
import Derived.WalkKit
import Derived.ProofKit
import Derived.OpenShut
import Derived.ShutString
import Derived.Below
namespace Go.Proofs.Qxb6623277a.fnNumberInsertDigit
open Go.ChangeShapes Go.WideShapes Go.ChangeAt Go.RowKit
open Go.ChangeMaps (open_string shut_string)
set_option linter.unusedVariables false      -- a walk need not use every 'w<i>' (that an integer argument fits its kind)

theorem own : ownKnob Try.prog.godebug = none := by kernel_rfl

/-! ### STEP 1: THE WALK -/
set_option maxRecDepth 20000 in
theorem walk_long (a0 a2 : ByteArray) (a1 : Int) (w : World) (h0 : a0.size ≤ maxLen) (h3 : a2.size ≤ maxLen) (h : 1048576 < a0.size ∨ (a0.size ≤ 1048576 ∧ 1048576 < a2.size) ∨ (a0.size ≤ 1048576 ∧ a2.size ≤ 1048576 ∧ 1048576 < a0.size + a2.size)) :
    Calls Try.prog 3 #[.string a0, .int .u8 a1, .string a2] w fun e w' => e = .returned (.bool true) ∧ Below w.heap.size w w' := by
  go_enter Try.func3, Try.ntmps3
  go_wp2_with (go_at_call 4; refine (zb4_no _ _ _ _ h0 h3 h).mono ?_; rintro e w' ⟨rfl, rfl⟩)
  go_ret
  exact ⟨rfl, Below.refl _ _⟩
set_option maxRecDepth 20000 in
theorem walk_early (a0 a2 : ByteArray) (a1 : Int) (w : World) (h0 : a0.size ≤ 1048576) (h1 : a2.size ≤ 1048576) (h2 : a0.size + a2.size ≤ 1048576) (h : 65536 < a2.size ∨ (a2.size ≤ 65536 ∧ a1 < 48) ∨ (a2.size ≤ 65536 ∧ 48 ≤ a1 ∧ 57 < a1)) :
    Calls Try.prog 3 #[.string a0, .int .u8 a1, .string a2] w fun e w' => e = .returned (.bool true) ∧ Below w.heap.size w w' := by
  rcases h with h | ⟨g1, g2⟩ | ⟨g1, g2, g3⟩
  all_goals
    go_enter Try.func3, Try.ntmps3
    go_wp2_with (go_at_call 4; refine (zb4 _ _ _ _ h0 h1 h2).mono ?_; rintro e w' ⟨rfl, rfl⟩)
    go_ret
    exact ⟨rfl, Below.refl _ _⟩

theorem walk (a0 : ByteArray) (a1 : Int) (a2 : ByteArray) (w0 : a0.size ≤ maxLen) (w1 : (Lit.int .u8 a1).wf = true) (w2 : a2.size ≤ maxLen) (w : World) :
    Calls Try.prog 3 #[.string a0, .int .u8 a1, .string a2] w fun e w' => e = .returned (.bool true) ∧ Below w.heap.size w w' := by
  by_cases hl : 1048576 < a0.size ∨ (a0.size ≤ 1048576 ∧ 1048576 < a2.size) ∨ (a0.size ≤ 1048576 ∧ a2.size ≤ 1048576 ∧ 1048576 < a0.size + a2.size)
  · exact walk_long a0 a2 a1 w w0 w2 hl
  · by_cases h : 65536 < a2.size ∨ (a2.size ≤ 65536 ∧ a1 < 48) ∨ (a2.size ≤ 65536 ∧ 48 ≤ a1 ∧ 57 < a1)
    · exact walk_early a0 a2 a1 w (by omega) (by omega) (by omega) h
    · obtain ⟨d, rfl⟩ := Int.eq_ofNat_of_zero_le (show 0 ≤ a1 by omega)
      exact insert_main a0 a2 d w (by omega) (by omega) (by omega) (by omega) (by omega)

/-! ### THE ROW's STEP: WRITTEN OUT: LEAVE IT -/
set_option maxRecDepth 100000 in
theorem lifted (os : Os) (started : os.Started) (H : Type) (enc : TypeId × Value → H) :
    ReturnsInHanded {} Try.checked os 3 .any (Rows.fnNumberInsertDigitSpec.pre6 enc Try.prog Try.f3 Rows.fnNumberInsertDigitRow.domain false) (Rows.fnNumberInsertDigitSpec.post enc Try.prog Try.f3 false true false false) := by
  refine returnsInHanded_of_change (C := Try.checked) own started (by kernel_rfl) Try.func3
    (ChangeSpec.witness6 (enc := enc) (C := Try.checked) false ⟨#[], #[.string ByteArray.empty, .int .u8 0, .string ByteArray.empty], []⟩ 8 (by kernel_rfl) (by kernel_rfl) (by kernel_rfl) (by kernel_rfl)) ?_
  intro W base args ds gs before hval0 hW hcnd _
  have hval : ∀ (j : Nat) t v, Try.f3.params[j]? = some t → args[j]? = some v → Value.okWide Try.prog W .any base t v := hval0
  have hW' := hW
  obtain ⟨p, q, hA0, hV, rfl, hfz, hnd⟩ := hW
  have hA : DataW.TrodAll enc Try.prog W 0 (fun _ => true) true Try.f3.params.toList args.toList ds p := hA0
  rw [Try.params3] at hA hval
  obtain ⟨v0, vs0, d0, ds0, p0, q0, hargs, rfl, rfl, h0, r0⟩ := trodAll_cons hA
  obtain ⟨v1, vs1, d1, ds1, p1, q1, rfl, rfl, rfl, h1, r1⟩ := trodAll_cons r0
  obtain ⟨v2, vs2, d2, ds2, p2, q2, rfl, rfl, rfl, h2, r2⟩ := trodAll_cons r1
  obtain ⟨rfl, rfl, rfl⟩ := trodAll_nil r2
  obtain rfl : args = #[v0, v1, v2] := by cases args; simp_all
  obtain ⟨rfl, rfl⟩ := trodVars_none hV
  obtain ⟨a0, rfl, rfl, rfl, w0⟩ := open_string Try.underlying9 (hval 0 9 v0 rfl rfl) h0
  obtain ⟨a1, rfl, rfl, rfl, w1⟩ := open_int Try.underlying5 (hval 1 5 v1 rfl rfl) h1
  obtain ⟨a2, rfl, rfl, rfl, w2⟩ := open_string Try.underlying9 (hval 2 9 v2 rfl rfl) h2
  clear hA0 hval0
  refine (walk a0 a1 a2 w0 w1 w2 W).mono fun e W' ⟨he, bel⟩ => ?_
  subst he
  exact ⟨_, rfl, _, _, _, [], _, [], hW', trodAll_mk1 (shut_bool Try.underlying4 _), (trodAll_cons_mk (shut_string Try.underlying9 w0) (trodAll_cons_mk (shut_int Try.underlying5 w1) (trodAll_cons_mk (shut_string Try.underlying9 w2) trodAll_mk0))), rfl, bel.frame _, fun h => by cases h⟩

theorem over : Rows.fnNumberInsertDigitRow.holds Try.pinned (OpenSpec.ofChange Rows.fnNumberInsertDigitSpec) :=
  OpenClaim.holds_of_wide 3 Try.f3 rfl rfl rfl rfl rfl rfl rfl ⟨rfl, rfl, rfl, rfl, rfl⟩ rfl rfl rfl rfl rfl (by kernel_rfl) Try.func3 (by kernel_rfl)
    (of_decide_eq_true (by kernel_rfl)) (by unfold Func.isWrapper; first | (rw [if_pos (by decide +kernel)]; kernel_rfl) | (rw [if_neg (by decide +kernel)]; exact ⟨rfl, rfl⟩))
    (fun os started H enc _ => lifted os started H enc)

/-- ████ THE STATEMENT ████ -/
theorem proved : Rows.FnNumberInsertDigitSaid :=
  over
end Go.Proofs.Qxb6623277a.fnNumberInsertDigit
