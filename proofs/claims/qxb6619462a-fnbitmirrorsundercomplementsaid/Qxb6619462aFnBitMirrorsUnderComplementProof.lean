/-
  THE PROOF OF 'Rows.FnBitMirrorsUnderComplementSaid': the frame as the given shell has it; the walk is typed.
-/
import Derived.Test.Qxb6619462aRows
import Derived.Test.Qxb6619462aMirror
import Derived.WalkKit
import Derived.ProofKit
import Derived.OpenShut
import Derived.ShutString
import Derived.ChangeOld
import Derived.Below
namespace Go.Proofs.Qxb6619462a.fnBitMirrorsUnderComplement
open Go.ChangeShapes Go.WideShapes Go.ChangeAt Go.RowKit
open Go.ChangeMaps (open_string shut_string)
set_option linter.unusedVariables false

theorem own : ownKnob Try.prog.godebug = none := by kernel_rfl
theorem laidOut : laidOutB Try.prog = true := by kernel_rfl

/-- WHAT THE WALK IS TOLD OF A SLICE OF INTEGERS THAT CAME IN: it is nil; or it leads to a row of 'cap' cells, the numbers 'zs' (the first 'len' are its elements, the rest its spare room), each fitting its kind. -/
def IsRow (k : IntKind) (w : World) (a : Option Addr) (len cap : Nat) (zs : List Int) : Prop :=
  (a = none ∧ len = 0 ∧ cap = 0 ∧ zs = []) ∨
  ∃ x, a = some x ∧ len ≤ cap ∧ cap ≤ maxLen ∧ zs.length = cap ∧ (∀ i, i < zs.length → w.cell? (x.add i) = some (.int k (zs.getD i 0))) ∧ ∀ n ∈ zs, (Lit.int k n).wf = true

/-! ### THE PLAIN LAW -/
theorem turns_hi (v : Value) (g : Option Nat) (len : Nat) (f : Nat → Int) (at_ rng code : Int) (ov : Bool) (h : 16777216 ≤ rng) : Turns v g len f at_ rng code at_ rng code ov :=
  fun W b _ D _ => norm_hi W b v at_ rng code ov D h
theorem turns_in (g len n : Nat) (f : Nat → Int) (rng code : Int) (ov : Bool) (h0 : 0 ≤ rng) (h : rng < 16777216) (hc0 : 0 ≤ code) (hc : code < 4294967296) (hn : n < len) (hl : len ≤ 1048576) (hf : 0 ≤ f n ∧ f n ≤ 255) (code' : Int) (hc' : code * 256 % 4294967296 + f n = code') :
    Turns (.slice (some ⟨g, 0, none⟩) len len) (some g) len f n rng code (n + 1 : Nat) (rng * 256) code' ov := by
  subst hc'
  intro W b hb D hB
  exact norm_in W b g 0 len len n rng code (f n) ov D h0 h hc0 hc hn hl (hB g rfl n hn) (fun e => hb (by rw [e])) hf.1 hf.2
theorem bound_split (R p : Int) (h : R % 2048 = 0) (h0 : 0 ≤ R) (hp0 : 0 ≤ p) (hp : p ≤ 2048) : R / 2048 * (2048 - p) = R - R / 2048 * p ∧ 0 ≤ R / 2048 * p ∧ R / 2048 * p ≤ R := by
  have e : R / 2048 * 2048 = R := by omega
  have h1 : R / 2048 * (2048 - p) = R / 2048 * 2048 - R / 2048 * p := Int.mul_sub _ _ _
  have h2 : 0 ≤ R / 2048 * p := Int.mul_nonneg (by omega) hp0
  have h3 : 0 ≤ R / 2048 * (2048 - p) := Int.mul_nonneg (by omega) (by omega)
  rw [e] at h1
  exact ⟨h1, h2, by omega⟩

/-! ### STEP 1: THE WALK -/
theorem walk_long (a0 : Option Addr) (len0 cap0 : Nat) (a1 : Int) (a2 : Int) (a3 : Int) (a4 : Bool) (a5 : Int) (w : World) (h : ¬ len0 ≤ 1048576) :
    Calls Try.prog 4 #[.slice a0 len0 cap0, .int .i64 a1, .int .u32 a2, .int .u32 a3, .bool a4, .int .u16 a5] w fun e w' => e = .returned (.bool true) ∧ Below w.heap.size w w' := by
  go_enter Try.func4, Try.ntmps4
  go_wp2_with (go_at_call 13; refine (zb13_no _ _ _ _ _ _ _ _ _ h).mono ?_; rintro e w' ⟨rfl, rfl⟩)
  go_ret
  exact ⟨rfl, Below.refl _ _⟩
set_option maxRecDepth 20000 in
theorem walk_early (a0 : Option Addr) (len0 cap0 : Nat) (a1 : Int) (a2 : Int) (a3 : Int) (a4 : Bool) (a5 : Int) (w : World) (hl : len0 ≤ 1048576) (h0 : 0 ≤ a2) (h : a1 < 0 ∨ (0 ≤ a1 ∧ a2 % 2048 ≠ 0) ∨ (0 ≤ a1 ∧ a2 % 2048 = 0 ∧ a2 ≤ a3) ∨ (0 ≤ a1 ∧ a2 % 2048 = 0 ∧ a3 < a2 ∧ 2048 < a5)) :
    Calls Try.prog 4 #[.slice a0 len0 cap0, .int .i64 a1, .int .u32 a2, .int .u32 a3, .bool a4, .int .u16 a5] w fun e w' => e = .returned (.bool true) ∧ Below w.heap.size w w' := by
  rcases h with h | ⟨h1, h2⟩ | ⟨h1, h2, h3⟩ | ⟨h1, h2, h3, h4⟩
  all_goals
    go_enter Try.func4, Try.ntmps4
    go_wp2_with (go_at_call 13; refine (zb13 _ _ _ _ _ _ _ _ _ hl).mono ?_; rintro e w' ⟨rfl, rfl⟩)
    go_ret
    exact ⟨rfl, Below.refl _ _⟩
set_option maxRecDepth 20000 in
theorem walk_past (a0 : Option Addr) (len0 cap0 : Nat) (a1 : Int) (a2 : Int) (a3 : Int) (a4 : Bool) (a5 : Int) (w : World) (hl : len0 ≤ 1048576) (h0 : 0 ≤ a2) (h1 : 0 ≤ a1) (h2 : a2 % 2048 = 0) (h3 : a3 < a2) (h4 : a5 ≤ 2048) (h5 : a2 < 16777216) (h6 : (len0 : Int) ≤ a1) :
    Calls Try.prog 4 #[.slice a0 len0 cap0, .int .i64 a1, .int .u32 a2, .int .u32 a3, .bool a4, .int .u16 a5] w fun e w' => e = .returned (.bool true) ∧ Below w.heap.size w w' := by
  go_enter Try.func4, Try.ntmps4
  go_wp2_with (go_at_call 13; refine (zb13 _ _ _ _ _ _ _ _ _ hl).mono ?_; rintro e w' ⟨rfl, rfl⟩)
  go_ret
  exact ⟨rfl, Below.refl _ _⟩

theorem walk (a0 : Option Addr) (len0 cap0 : Nat) (z0 : List Int) (a1 : Int) (a2 : Int) (a3 : Int) (a4 : Bool) (a5 : Int) (w : World) (w0 : IsRow .u8 w a0 len0 cap0 z0) (w1 : (Lit.int .i64 a1).wf = true) (w2 : (Lit.int .u32 a2).wf = true) (w3 : (Lit.int .u32 a3).wf = true) (w5 : (Lit.int .u16 a5).wf = true) :
    Calls Try.prog 4 #[.slice a0 len0 cap0, .int .i64 a1, .int .u32 a2, .int .u32 a3, .bool a4, .int .u16 a5] w fun e w' => e = .returned (.bool true) ∧ Below w.heap.size w w' := by
  obtain ⟨r0, r1⟩ := bounds_u32 w2
  obtain ⟨c0, c1⟩ := bounds_u32 w3
  obtain ⟨p0, p1⟩ := bounds_u16 w5
  by_cases hl : len0 ≤ 1048576
  · by_cases h : a1 < 0 ∨ (0 ≤ a1 ∧ a2 % 2048 ≠ 0) ∨ (0 ≤ a1 ∧ a2 % 2048 = 0 ∧ a2 ≤ a3) ∨ (0 ≤ a1 ∧ a2 % 2048 = 0 ∧ a3 < a2 ∧ 2048 < a5)
    · exact walk_early a0 len0 cap0 a1 a2 a3 a4 a5 w hl r0 h
    · have e1 : 0 ≤ a1 := by omega
      have e2 : a2 % 2048 = 0 := by omega
      have e3 : a3 < a2 := by omega
      have e4 : a5 ≤ 2048 := by omega
      by_cases h5 : a2 < 16777216
      · by_cases h6 : (len0 : Int) ≤ a1
        · exact walk_past a0 len0 cap0 a1 a2 a3 a4 a5 w hl r0 e1 e2 e3 e4 h5 h6
        · obtain ⟨n, rfl⟩ := Int.eq_ofNat_of_zero_le e1
          obtain ⟨s1, s2, s3⟩ := bound_split (a2 * 256) a5 (by omega) (by omega) p0 e4
          rcases w0 with ⟨rfl, rfl, rfl, rfl⟩ | ⟨x, rfl, hlc, hcm, hzl, hcell, hwz⟩
          · omega
          · have hf := range_u8 hwz
            have hfn := hf n
            refine mirror_some x len0 cap0 (fun j => z0[j]?.getD 0) n a2 a3 a5 (n + 1 : Nat) (a2 * 256) (a3 * 256 + z0[n]?.getD 0) (a2 * 256 / 2048 * a5) a4 w hl ?_ hf e1 e2 r0 (by omega) e3 c0 p0 e4 (.inr (by omega)) ?_ ?_ (by omega) (by omega) (by omega) (by omega) rfl s1 s2 s3
            · intro hp
              obtain ⟨b, off, rfl, hc⟩ := ints_at hcell (by omega)
              exact ⟨b, off, rfl, fun j hj => by simpa [List.getD] using hc j (by omega)⟩
            · intro g
              exact turns_in g len0 n _ a2 a3 a4 r0 h5 c0 (by omega) (by omega) hl hfn _ (by simp; omega)
            · intro g
              exact turns_in g len0 n _ a2 (a2 - 1 - a3) a4 r0 h5 (by omega) (by omega) (by omega) hl ⟨by show (0 : Int) ≤ 255 - z0[n]?.getD 0; omega, by show 255 - z0[n]?.getD 0 ≤ (255 : Int); omega⟩ _ (by show (a2 - 1 - a3) * 256 % 4294967296 + (255 - z0[n]?.getD 0) = a2 * 256 - 1 - (a3 * 256 + z0[n]?.getD 0); omega)
      · obtain ⟨s1, s2, s3⟩ := bound_split a2 a5 e2 r0 p0 e4
        rcases w0 with ⟨rfl, rfl, rfl, rfl⟩ | ⟨x, rfl, hlc, hcm, hzl, hcell, hwz⟩
        · exact mirror_nil (fun _ => 0) a1 a2 a3 a5 a1 a2 a3 _ a4 w e1 e2 r0 (by omega) e3 c0 p0 e4 h5 (turns_hi _ _ _ _ _ _ _ _ (by omega)) (fun g => turns_hi _ _ _ _ _ _ _ _ (by omega)) r0 (by omega) e3 c0 rfl s1 s2 s3
        · have hf := range_u8 hwz
          refine mirror_some x len0 cap0 (fun j => z0[j]?.getD 0) a1 a2 a3 a5 a1 a2 a3 (a2 / 2048 * a5) a4 w hl ?_ hf e1 e2 r0 (by omega) e3 c0 p0 e4 (.inl (by omega)) (fun g => turns_hi _ _ _ _ _ _ _ _ (by omega)) (fun g => turns_hi _ _ _ _ _ _ _ _ (by omega)) r0 (by omega) e3 c0 rfl s1 s2 s3
          intro hp
          obtain ⟨b, off, rfl, hc⟩ := ints_at hcell (by omega)
          exact ⟨b, off, rfl, fun j hj => by simpa [List.getD] using hc j (by omega)⟩
  · exact walk_long a0 len0 cap0 a1 a2 a3 a4 a5 w hl

/-! ### THE ROW's STEP: WRITTEN OUT: LEAVE IT -/
set_option maxRecDepth 100000 in
theorem lifted (os : Os) (started : os.Started) (H : Type) (enc : TypeId × Value → H) :
    ReturnsInHanded {} Try.checked os 4 .any (Rows.fnBitMirrorsUnderComplementSpec.pre6 enc Try.prog Try.f4 Rows.fnBitMirrorsUnderComplementRow.domain false) (Rows.fnBitMirrorsUnderComplementSpec.post enc Try.prog Try.f4 false true false false) := by
  refine returnsInHanded_of_change (C := Try.checked) own started (by kernel_rfl) Try.func4
    (ChangeSpec.witness6 (enc := enc) (C := Try.checked) false ⟨#[], #[.slice none 0 0, .int .i64 0, .int .u32 0, .int .u32 0, .bool false, .int .u16 0], []⟩ 8 (by kernel_rfl) (by kernel_rfl) (by kernel_rfl) (by kernel_rfl)) ?_
  intro W base args ds gs before hval0 hW hcnd _
  have hval : ∀ (j : Nat) t v, Try.f4.params[j]? = some t → args[j]? = some v → Value.okWide Try.prog W .any base t v := hval0
  have hW' := hW
  obtain ⟨p, q, hA0, hV, rfl, hfz, hnd⟩ := hW
  have hA : DataW.TrodAll enc Try.prog W 0 (fun _ => true) true Try.f4.params.toList args.toList ds p := hA0
  rw [Try.params4] at hA hval
  obtain ⟨v0, vs0, d0, ds0, p0, q0, hargs, rfl, rfl, h0, r0⟩ := trodAll_cons hA
  obtain ⟨v1, vs1, d1, ds1, p1, q1, rfl, rfl, rfl, h1, r1⟩ := trodAll_cons r0
  obtain ⟨v2, vs2, d2, ds2, p2, q2, rfl, rfl, rfl, h2, r2⟩ := trodAll_cons r1
  obtain ⟨v3, vs3, d3, ds3, p3, q3, rfl, rfl, rfl, h3, r3⟩ := trodAll_cons r2
  obtain ⟨v4, vs4, d4, ds4, p4, q4, rfl, rfl, rfl, h4, r4⟩ := trodAll_cons r3
  obtain ⟨v5, vs5, d5, ds5, p5, q5, rfl, rfl, rfl, h5, r5⟩ := trodAll_cons r4
  obtain ⟨rfl, rfl, rfl⟩ := trodAll_nil r5
  obtain rfl : args = #[v0, v1, v2, v3, v4, v5] := by cases args; simp_all
  obtain ⟨rfl, rfl⟩ := trodVars_none hV
  obtain ⟨a0, len0, cap0, rfl⟩ := okWide_slice Try.underlying22 (hval 0 22 v0 rfl rfl)
  have k0 := h0
  have lt0 : ∀ x ∈ p0, x.block < W.heap.size := by obtain ⟨m, hm⟩ := k0; exact DataW.trod_lt m _ _ _ hm
  obtain ⟨z0, w0⟩ : ∃ zs, IsRow .u8 W a0 len0 cap0 zs := by
    obtain ⟨fuel, hf⟩ := h0
    rcases open_ints Try.underlying22 Try.underlying5 (by kernel_rfl) hf with ⟨hcs, _⟩ | ⟨x, l, c, zs, hcs, _, hl, hm, hz, _, hcell, hwz⟩
    · simp [Value.cells] at hcs
      obtain ⟨rfl, rfl, rfl⟩ := hcs
      exact ⟨[], .inl ⟨rfl, rfl, rfl, rfl⟩⟩
    · simp [Value.cells] at hcs
      obtain ⟨rfl, rfl, rfl⟩ := hcs
      exact ⟨zs, .inr ⟨_, rfl, hl, hm, by simpa using hz, hcell, hwz⟩⟩
  obtain ⟨a1, rfl, rfl, rfl, w1⟩ := open_int Try.underlying3 (hval 1 3 v1 rfl rfl) h1
  obtain ⟨a2, rfl, rfl, rfl, w2⟩ := open_int Try.underlying23 (hval 2 23 v2 rfl rfl) h2
  obtain ⟨a3, rfl, rfl, rfl, w3⟩ := open_int Try.underlying23 (hval 3 23 v3 rfl rfl) h3
  obtain ⟨a4, rfl, rfl, rfl⟩ := open_bool Try.underlying4 (hval 4 4 v4 rfl rfl) h4
  obtain ⟨a5, rfl, rfl, rfl, w5⟩ := open_int Try.underlying28 (hval 5 28 v5 rfl rfl) h5
  clear hA0 hval0
  refine (walk a0 len0 cap0 z0 a1 a2 a3 a4 a5 W w0 w1 w2 w3 w5).mono fun e W' ⟨he, bel⟩ => ?_
  subst he
  exact ⟨_, rfl, _, _, _, [], _, [], hW', trodAll_mk1 (shut_bool Try.underlying4 _), (trodAll_cons_mk (Below.trod laidOut (by kernel_rfl) (of_decide_eq_true (by kernel_rfl)) k0 bel lt0) (trodAll_cons_mk (shut_int Try.underlying3 w1) (trodAll_cons_mk (shut_int Try.underlying23 w2) (trodAll_cons_mk (shut_int Try.underlying23 w3) (trodAll_cons_mk (shut_bool Try.underlying4 _) (trodAll_cons_mk (shut_int Try.underlying28 w5) trodAll_mk0)))))), rfl, bel.frame _, fun h => by cases h⟩

theorem over : Rows.fnBitMirrorsUnderComplementRow.holds Try.pinned (OpenSpec.ofChange Rows.fnBitMirrorsUnderComplementSpec) :=
  OpenClaim.holds_of_wide 4 Try.f4 rfl rfl rfl rfl rfl rfl rfl ⟨rfl, rfl, rfl, rfl, rfl⟩ rfl rfl rfl rfl rfl (by kernel_rfl) Try.func4 (by kernel_rfl)
    (of_decide_eq_true (by kernel_rfl)) (by unfold Func.isWrapper; first | (rw [if_pos (by decide +kernel)]; kernel_rfl) | (rw [if_neg (by decide +kernel)]; exact ⟨rfl, rfl⟩))
    (fun os started H enc _ => lifted os started H enc)

/-- ████ THE STATEMENT ████ -/
theorem proved : Rows.FnBitMirrorsUnderComplementSaid := over
end Go.Proofs.Qxb6619462a.fnBitMirrorsUnderComplement
