/-
  THE PROOF OF 'Rows.FnDirectReadsRawBitsUnderPowerOfTwoRangeSaid': the frame as the given shell has it; the walk is typed.
-/
import Derived.Test.Qxb6619462aRows
import Derived.Test.Qxb6619462aRawN
import Derived.WalkKit
import Derived.ProofKit
import Derived.OpenShut
import Derived.ShutString
import Derived.ChangeOld
import Derived.Below
namespace Go.Proofs.Qxb6619462a.fnDirectReadsRawBitsUnderPowerOfTwoRange
open Go.ChangeShapes Go.WideShapes Go.ChangeAt Go.RowKit
open Go.ChangeMaps (open_string shut_string)
set_option linter.unusedVariables false

theorem own : ownKnob Try.prog.godebug = none := by kernel_rfl
theorem laidOut : laidOutB Try.prog = true := by kernel_rfl

/-- WHAT THE WALK IS TOLD OF A SLICE OF INTEGERS THAT CAME IN: it is nil; or it leads to a row of 'cap' cells, the numbers 'zs' (the first 'len' are its elements, the rest its spare room), each fitting its kind. -/
def IsRow (k : IntKind) (w : World) (a : Option Addr) (len cap : Nat) (zs : List Int) : Prop :=
  (a = none ∧ len = 0 ∧ cap = 0 ∧ zs = []) ∨
  ∃ x, a = some x ∧ len ≤ cap ∧ cap ≤ maxLen ∧ zs.length = cap ∧ (∀ i, i < zs.length → w.cell? (x.add i) = some (.int k (zs.getD i 0))) ∧ ∀ n ∈ zs, (Lit.int k n).wf = true

/-! ### STEP 1: THE WALK -/
set_option maxRecDepth 20000 in
theorem walk_long (a0 : Option Addr) (len0 cap0 : Nat) (a1 : Int) (a2 : Int) (a3 : Int) (a4 : Bool) (a5 : Int) (w : World) (h : ¬ len0 ≤ 1048576) :
    Calls Try.prog 6 #[.slice a0 len0 cap0, .int .i64 a1, .int .u32 a2, .int .u32 a3, .bool a4, .int .i64 a5] w fun e w' => e = .returned (.bool true) ∧ Below w.heap.size w w' := by
  go_enter Try.func6, Try.ntmps6
  go_wp2_with (go_at_call 18; refine (Raw.zb18_no _ _ _ _ _ _ _ _ _ h).mono ?_; rintro e w' ⟨rfl, rfl⟩)
  go_ret
  exact ⟨rfl, Below.refl _ _⟩
set_option maxRecDepth 20000 in
theorem walk_early (a0 : Option Addr) (len0 cap0 : Nat) (a1 : Int) (a2 : Int) (a3 : Int) (a4 : Bool) (a5 : Int) (w : World) (hl : len0 ≤ 1048576) (h0 : 0 ≤ a2) (h1 : a2 < 4294967296) (h : 65536 < a5 ∨ (a5 ≤ 65536 ∧ a1 < 0) ∨ (a5 ≤ 65536 ∧ 0 ≤ a1 ∧ (a2 == 0) = true) ∨ (a5 ≤ 65536 ∧ 0 ≤ a1 ∧ (a2 == 0) = false ∧ 1 ≤ a2 ∧ (bits .and .u32 a2 (a2 - 1) != 0) = true) ∨ (a5 ≤ 65536 ∧ 0 ≤ a1 ∧ (a2 == 0) = false ∧ 1 ≤ a2 ∧ (bits .and .u32 a2 (a2 - 1) != 0) = false ∧ a2 ≤ a3)) :
    Calls Try.prog 6 #[.slice a0 len0 cap0, .int .i64 a1, .int .u32 a2, .int .u32 a3, .bool a4, .int .i64 a5] w fun e w' => e = .returned (.bool true) ∧ Below w.heap.size w w' := by
  rcases h with h | ⟨h1, h2⟩ | ⟨h1, h2, h3⟩ | ⟨h1, h2, h3, h4, h5⟩ | ⟨h1, h2, h3, h4, h5, h6⟩
  all_goals
    go_enter Try.func6, Try.ntmps6
    go_wp2_with (go_at_call 18; refine (Raw.zb18 _ _ _ _ _ _ _ _ _ hl).mono ?_; rintro e w' ⟨rfl, rfl⟩)
    go_ret
    exact ⟨rfl, Below.refl _ _⟩

theorem walk (a0 : Option Addr) (len0 cap0 : Nat) (z0 : List Int) (a1 : Int) (a2 : Int) (a3 : Int) (a4 : Bool) (a5 : Int) (w : World) (w0 : IsRow .u8 w a0 len0 cap0 z0) (w1 : (Lit.int .i64 a1).wf = true) (w2 : (Lit.int .u32 a2).wf = true) (w3 : (Lit.int .u32 a3).wf = true) (w5 : (Lit.int .i64 a5).wf = true) :
    Calls Try.prog 6 #[.slice a0 len0 cap0, .int .i64 a1, .int .u32 a2, .int .u32 a3, .bool a4, .int .i64 a5] w fun e w' => e = .returned (.bool true) ∧ Below w.heap.size w w' := by
  obtain ⟨r0, r1⟩ := bounds_u32 w2
  obtain ⟨c0, c1⟩ := bounds_u32 w3
  obtain ⟨i0, i1⟩ := bounds_i64 w1
  by_cases hl : len0 ≤ 1048576
  · by_cases h1 : 65536 < a5
    · exact walk_early a0 len0 cap0 a1 a2 a3 a4 a5 w hl r0 (by omega) (.inl h1)
    by_cases h2 : a1 < 0
    · exact walk_early a0 len0 cap0 a1 a2 a3 a4 a5 w hl r0 (by omega) (.inr (.inl ⟨by omega, h2⟩))
    by_cases h3 : a2 = 0
    · exact walk_early a0 len0 cap0 a1 a2 a3 a4 a5 w hl r0 (by omega) (.inr (.inr (.inl ⟨by omega, by omega, by simp [h3]⟩)))
    have h3' : (a2 == 0) = false := by simp [h3]
    by_cases h4 : bits .and .u32 a2 (a2 - 1) = 0
    · have h4' : (bits .and .u32 a2 (a2 - 1) != 0) = false := by simp [h4]
      by_cases h5 : a2 ≤ a3
      · exact walk_early a0 len0 cap0 a1 a2 a3 a4 a5 w hl r0 (by omega) (.inr (.inr (.inr (.inr ⟨by omega, by omega, h3', by omega, h4', h5⟩))))
      · obtain ⟨A, rfl⟩ := Int.eq_ofNat_of_zero_le (Int.not_lt.1 h2)
        obtain ⟨c, rfl⟩ := Int.eq_ofNat_of_zero_le c0
        obtain ⟨r, rfl⟩ := Int.eq_ofNat_of_zero_le r0
        obtain ⟨k, hk, hr⟩ := Raw.pow_of_and r (by omega) (by omega) h4
        rcases w0 with ⟨rfl, rfl, rfl, rfl⟩ | ⟨x, rfl, hlc, hcm, hzl, hcell, hwz⟩
        · exact Raw.raw_main none 0 0 (fun _ => 0) A c k r a4 a5 w hl (fun _ => by omega) (clone_any _ _ _ _ _ hl (.inl ⟨rfl, rfl, rfl⟩)) (by omega) (by omega) hk (by rw [hr]) (by omega) (by omega) (by omega) h4
        · refine Raw.raw_main (some x) len0 cap0 (fun j => z0[j]?.getD 0) A c k r a4 a5 w hl (range_u8 hwz) (clone_any _ _ _ _ _ hl (.inr ⟨x, rfl, ?_⟩)) (by omega) (by omega) hk (by rw [hr]) (by omega) (by omega) (by omega) h4
          intro hp
          obtain ⟨b, off, rfl, hc⟩ := ints_at hcell (by omega)
          exact ⟨b, off, rfl, fun j hj => by simpa [List.getD] using hc j (by omega)⟩
    · exact walk_early a0 len0 cap0 a1 a2 a3 a4 a5 w hl r0 (by omega) (.inr (.inr (.inr (.inl ⟨by omega, by omega, h3', by omega, by simp [h4]⟩))))
  · exact walk_long a0 len0 cap0 a1 a2 a3 a4 a5 w hl

/-! ### THE ROW's STEP: WRITTEN OUT: LEAVE IT -/
set_option maxRecDepth 100000 in
theorem lifted (os : Os) (started : os.Started) (H : Type) (enc : TypeId × Value → H) :
    ReturnsInHanded {} Try.checked os 6 .any (Rows.fnDirectReadsRawBitsUnderPowerOfTwoRangeSpec.pre6 enc Try.prog Try.f6 Rows.fnDirectReadsRawBitsUnderPowerOfTwoRangeRow.domain false) (Rows.fnDirectReadsRawBitsUnderPowerOfTwoRangeSpec.post enc Try.prog Try.f6 false true false false) := by
  refine returnsInHanded_of_change (C := Try.checked) own started (by kernel_rfl) Try.func6
    (ChangeSpec.witness6 (enc := enc) (C := Try.checked) false ⟨#[], #[.slice none 0 0, .int .i64 0, .int .u32 0, .int .u32 0, .bool false, .int .i64 0], []⟩ 8 (by kernel_rfl) (by kernel_rfl) (by kernel_rfl) (by kernel_rfl)) ?_
  intro W base args ds gs before hval0 hW hcnd _
  have hval : ∀ (j : Nat) t v, Try.f6.params[j]? = some t → args[j]? = some v → Value.okWide Try.prog W .any base t v := hval0
  have hW' := hW
  obtain ⟨p, q, hA0, hV, rfl, hfz, hnd⟩ := hW
  have hA : DataW.TrodAll enc Try.prog W 0 (fun _ => true) true Try.f6.params.toList args.toList ds p := hA0
  rw [Try.params6] at hA hval
  obtain ⟨v0, vs0, d0, ds0, p0, q0, hargs, rfl, rfl, h0, r0⟩ := trodAll_cons hA
  obtain ⟨v1, vs1, d1, ds1, p1, q1, rfl, rfl, rfl, h1, r1⟩ := trodAll_cons r0
  obtain ⟨v2, vs2, d2, ds2, p2, q2, rfl, rfl, rfl, h2, r2⟩ := trodAll_cons r1
  obtain ⟨v3, vs3, d3, ds3, p3, q3, rfl, rfl, rfl, h3, r3⟩ := trodAll_cons r2
  obtain ⟨v4, vs4, d4, ds4, p4, q4, rfl, rfl, rfl, h4, r4⟩ := trodAll_cons r3
  obtain ⟨v5, vs5, d5, ds5, p5, q5, rfl, rfl, rfl, h5, r5⟩ := trodAll_cons r4
  obtain ⟨rfl, rfl, rfl⟩ := trodAll_nil r5
  obtain rfl : args = #[v0, v1, v2, v3, v4, v5] := by cases args; simp_all
  obtain ⟨rfl, rfl⟩ := trodVars_none hV
  obtain ⟨a0, len0, cap0, rfl⟩ := okWide_slice Try.underlying22 (hval 0 22 v0 rfl rfl)
  have k0 := h0
  have lt0 : ∀ x ∈ p0, x.block < W.heap.size := by obtain ⟨m, hm⟩ := k0; exact DataW.trod_lt m _ _ _ hm
  obtain ⟨z0, w0⟩ : ∃ zs, IsRow .u8 W a0 len0 cap0 zs := by
    obtain ⟨fuel, hf⟩ := h0
    rcases open_ints Try.underlying22 Try.underlying5 (by kernel_rfl) hf with ⟨hcs, _⟩ | ⟨x, l, c, zs, hcs, _, hl, hm, hz, _, hcell, hwz⟩
    · simp [Value.cells] at hcs
      obtain ⟨rfl, rfl, rfl⟩ := hcs
      exact ⟨[], .inl ⟨rfl, rfl, rfl, rfl⟩⟩
    · simp [Value.cells] at hcs
      obtain ⟨rfl, rfl, rfl⟩ := hcs
      exact ⟨zs, .inr ⟨_, rfl, hl, hm, by simpa using hz, hcell, hwz⟩⟩
  obtain ⟨a1, rfl, rfl, rfl, w1⟩ := open_int Try.underlying3 (hval 1 3 v1 rfl rfl) h1
  obtain ⟨a2, rfl, rfl, rfl, w2⟩ := open_int Try.underlying23 (hval 2 23 v2 rfl rfl) h2
  obtain ⟨a3, rfl, rfl, rfl, w3⟩ := open_int Try.underlying23 (hval 3 23 v3 rfl rfl) h3
  obtain ⟨a4, rfl, rfl, rfl⟩ := open_bool Try.underlying4 (hval 4 4 v4 rfl rfl) h4
  obtain ⟨a5, rfl, rfl, rfl, w5⟩ := open_int Try.underlying3 (hval 5 3 v5 rfl rfl) h5
  clear hA0 hval0
  refine (walk a0 len0 cap0 z0 a1 a2 a3 a4 a5 W w0 w1 w2 w3 w5).mono fun e W' ⟨he, bel⟩ => ?_
  subst he
  exact ⟨_, rfl, _, _, _, [], _, [], hW', trodAll_mk1 (shut_bool Try.underlying4 _), (trodAll_cons_mk (Below.trod laidOut (by kernel_rfl) (of_decide_eq_true (by kernel_rfl)) k0 bel lt0) (trodAll_cons_mk (shut_int Try.underlying3 w1) (trodAll_cons_mk (shut_int Try.underlying23 w2) (trodAll_cons_mk (shut_int Try.underlying23 w3) (trodAll_cons_mk (shut_bool Try.underlying4 _) (trodAll_cons_mk (shut_int Try.underlying3 w5) trodAll_mk0)))))), rfl, bel.frame _, fun h => by cases h⟩

theorem over : Rows.fnDirectReadsRawBitsUnderPowerOfTwoRangeRow.holds Try.pinned (OpenSpec.ofChange Rows.fnDirectReadsRawBitsUnderPowerOfTwoRangeSpec) :=
  OpenClaim.holds_of_wide 6 Try.f6 rfl rfl rfl rfl rfl rfl rfl ⟨rfl, rfl, rfl, rfl, rfl⟩ rfl rfl rfl rfl rfl (by kernel_rfl) Try.func6 (by kernel_rfl)
    (of_decide_eq_true (by kernel_rfl)) (by unfold Func.isWrapper; first | (rw [if_pos (by decide +kernel)]; kernel_rfl) | (rw [if_neg (by decide +kernel)]; exact ⟨rfl, rfl⟩))
    (fun os started H enc _ => lifted os started H enc)

/-- ████ THE STATEMENT ████ -/
theorem proved : Rows.FnDirectReadsRawBitsUnderPowerOfTwoRangeSaid := over
end Go.Proofs.Qxb6619462a.fnDirectReadsRawBitsUnderPowerOfTwoRange
