/-
  THE PROOF OF 'Rows.FnBreaksLineMatchesByteScanSaid': the frame as the given shell has it; the walk is typed.
-/
import Derived.Test.Qxb6619582aRows
import Derived.Test.Qxb6619582aEnds
import Derived.WalkKit
import Derived.ProofKit
import Derived.OpenShut
import Derived.ShutString
namespace Go.Proofs.Qxb6619582a.fnBreaksLineMatchesByteScan
open Go.ChangeShapes Go.WideShapes Go.ChangeAt Go.RowKit
open Go.ChangeMaps (open_string shut_string)
set_option linter.unusedVariables false      -- a walk need not use every 'w<i>' (that an integer argument fits its kind)

theorem own : ownKnob Try.prog.godebug = none := by kernel_rfl

/-! ### STEP 1: THE WALK -/
theorem zb6 (a0 : ByteArray) (a1 : Int) (w : World) (hl : a0.size ≤ 1048576) : Calls Try.prog 6 #[.string a0, .int .u8 a1] w fun e w' => e = .returned (.bool true) ∧ w = w' := by
  go_enter Try.func6, Try.ntmps6
  go_wp2
  go_ret
  exact ⟨rfl, rfl⟩
theorem zb6_no (a0 : ByteArray) (a1 : Int) (w : World) (hl : ¬ a0.size ≤ 1048576) : Calls Try.prog 6 #[.string a0, .int .u8 a1] w fun e w' => e = .returned (.bool false) ∧ w = w' := by
  go_enter Try.func6, Try.ntmps6
  go_wp2
  go_ret
  exact ⟨rfl, rfl⟩

set_option maxRecDepth 20000 in
theorem walk_long (a0 : ByteArray) (a1 : Int) (w : World) (h : ¬ a0.size ≤ 1048576) :
    Calls Try.prog 3 #[.string a0, .int .u8 a1] w fun e w' => e = .returned (.bool true) ∧ Grown w w' := by
  go_enter Try.func3, Try.ntmps3
  go_wp2_with (go_at_call 6; refine (zb6_no _ _ _ h).mono ?_; rintro e w' ⟨rfl, rfl⟩)
  go_ret
  exact ⟨rfl, Grown.refl _⟩
set_option maxRecDepth 20000 in
theorem walk_main (s : ByteArray) (c : Nat) (w : World) (hs : s.size ≤ 1048576) (hc : c < 256) :
    Calls Try.prog 3 #[.string s, .int .u8 c] w fun e w' => e = .returned (.bool true) ∧ Grown w w' := by
  go_enter Try.func3, Try.ntmps3
  go_wp2_with (go_at_call 6; refine (zb6 _ _ _ hs).mono ?_; rintro e w' ⟨rfl, rfl⟩)
  refine (zzbrk_any s c hs hc w).mono ?_
  rintro e w1 ⟨b, rfl, hb, n, rfl⟩
  have HB : Hid (b = true ↔ ∃ i, Hit s c i) := hb
  clear hb
  go_wp2_with fail
  refine (first_any s c hs hc _).mono ?_
  rintro e w2 ⟨i, rfl, hi, H1, H2, rfl⟩
  have hE : (b == decide (i < s.size)) = true := by
    by_cases hlt : i < s.size
    · have hb : b = true := HB.out.2 ⟨i, H2 hlt⟩
      rw [hb, decide_eq_true (by omega)]; rfl
    · have hb : b = false := by
        cases hbb : b with
        | false => rfl
        | true =>
          obtain ⟨j, hj⟩ := HB.out.1 hbb
          exact absurd hj (H1 j (by have := hj.lt; omega))
      rw [hb, decide_eq_false (by omega)]; rfl
  have HE : Hid ((b == decide (i < s.size)) = true) := hE
  clear hE H1 H2
  go_wp2
  go_ret
  exact ⟨ret_bool HE.out, by repeat (first | exact Grown.refl _ | apply Grown.drew | apply Grown.alloc)⟩

theorem walk (a0 : ByteArray) (a1 : Int) (w0 : a0.size ≤ maxLen) (w1 : (Lit.int .u8 a1).wf = true) (w : World) :
    Calls Try.prog 3 #[.string a0, .int .u8 a1] w fun e w' => e = .returned (.bool true) ∧ Grown w w' := by
  obtain ⟨c0, c1⟩ := bounds_u8 w1
  obtain ⟨c, rfl⟩ := Int.eq_ofNat_of_zero_le c0
  by_cases hl : a0.size ≤ 1048576
  · exact walk_main a0 c w hl (by omega)
  · exact walk_long a0 c w hl

/-! ### THE ROW's STEP: WRITTEN OUT: LEAVE IT -/
set_option maxRecDepth 100000 in
theorem lifted (os : Os) (started : os.Started) (H : Type) (enc : TypeId × Value → H) :
    ReturnsInHanded {} Try.checked os 3 .any (Rows.fnBreaksLineMatchesByteScanSpec.pre6 enc Try.prog Try.f3 Rows.fnBreaksLineMatchesByteScanRow.domain false) (Rows.fnBreaksLineMatchesByteScanSpec.post enc Try.prog Try.f3 false true false false) := by
  refine returnsInHanded_of_change (C := Try.checked) own started (by kernel_rfl) Try.func3
    (ChangeSpec.witness6 (enc := enc) (C := Try.checked) false ⟨#[], #[.string ByteArray.empty, .int .u8 0], []⟩ 8 (by kernel_rfl) (by kernel_rfl) (by kernel_rfl) (by kernel_rfl)) ?_
  intro W base args ds gs before hval0 hW hcnd _
  have hval : ∀ (j : Nat) t v, Try.f3.params[j]? = some t → args[j]? = some v → Value.okWide Try.prog W .any base t v := hval0
  have hW' := hW
  obtain ⟨p, q, hA0, hV, rfl, hfz, hnd⟩ := hW
  have hA : DataW.TrodAll enc Try.prog W 0 (fun _ => true) true Try.f3.params.toList args.toList ds p := hA0
  rw [Try.params3] at hA hval
  obtain ⟨v0, vs0, d0, ds0, p0, q0, hargs, rfl, rfl, h0, r0⟩ := trodAll_cons hA
  obtain ⟨v1, vs1, d1, ds1, p1, q1, rfl, rfl, rfl, h1, r1⟩ := trodAll_cons r0
  obtain ⟨rfl, rfl, rfl⟩ := trodAll_nil r1
  obtain rfl : args = #[v0, v1] := by cases args; simp_all
  obtain ⟨rfl, rfl⟩ := trodVars_none hV
  obtain ⟨a0, rfl, rfl, rfl, w0⟩ := open_string Try.underlying9 (hval 0 9 v0 rfl rfl) h0
  obtain ⟨a1, rfl, rfl, rfl, w1⟩ := open_int Try.underlying5 (hval 1 5 v1 rfl rfl) h1
  clear hA0 hval0
  simp only [List.append_nil] at hW'
  refine (walk a0 a1 w0 w1 W).mono fun e W' ⟨he, hg⟩ => ?_
  subst he
  exact ⟨_, rfl, post_of_same (pa := []) (pv := []) hW' (fun _ _ _ => (trodAll_cons_mk (shut_bool Try.underlying4 _) trodAll_mk0)) (fun sp _ => (trodAll_cons_mk (shut_string Try.underlying9 w0) (trodAll_cons_mk (shut_int Try.underlying5 w1) trodAll_mk0))) (fun _ _ => rfl) rfl
    (hg.frame _) hg.2.1 (ok_one (by kernel_rfl) rfl (okWide_bool_mk Try.underlying4 _))⟩

theorem over : Rows.fnBreaksLineMatchesByteScanRow.holds Try.pinned (OpenSpec.ofChange Rows.fnBreaksLineMatchesByteScanSpec) :=
  OpenClaim.holds_of_wide 3 Try.f3 rfl rfl rfl rfl rfl rfl rfl ⟨rfl, rfl, rfl, rfl, rfl⟩ rfl rfl rfl rfl rfl (by kernel_rfl) Try.func3 (by kernel_rfl)
    (of_decide_eq_true (by kernel_rfl)) (by unfold Func.isWrapper; first | (rw [if_pos (by decide +kernel)]; kernel_rfl) | (rw [if_neg (by decide +kernel)]; exact ⟨rfl, rfl⟩))
    (fun os started H enc _ => lifted os started H enc)

/-- ████ THE STATEMENT ████ -/
theorem proved : Rows.FnBreaksLineMatchesByteScanSaid :=
  over
end Go.Proofs.Qxb6619582a.fnBreaksLineMatchesByteScan
