import Derived.Test.Qxb6619462aImg
import Derived.Laws.Tables
namespace Go.Proofs.Qxb6619462a.Reset
open Go.RowKit
set_option linter.unusedVariables false

/-! ### THE ZERO VALUES OF THE THREE LARGE TYPES: reckoned once, by the kernel -/
def isZ (i : Nat) (v : Value) : Bool := match v with
  | .int .i64 0 => decide (i < 9)
  | .int .u16 0 => decide (9 ≤ i)
  | _ => false
def chk : Nat → List Value → Bool
  | i, [] => i == 14144
  | i, v :: l => isZ i v && chk (i + 1) l
def zc (P : Program) (t : TypeId) : Array Value := ((((P.info? t).bind (·.zero)).map Value.cells).getD #[])
theorem chk47 : chk 0 (zc Try.prog 47).toList = true := by kernel_rfl
theorem chk50 : chk 0 (zc Try.prog 50).toList = true := by kernel_rfl
theorem chk78 : chk 0 (zc Try.prog 78).toList = true := by kernel_rfl
theorem agg47 : ((Try.prog.info? 47).bind (·.zero)) = some (.agg (zc Try.prog 47)) := by kernel_rfl

theorem agg50 : ((Try.prog.info? 50).bind (·.zero)) = some (.agg (zc Try.prog 50)) := by kernel_rfl
theorem built78 (x0 x1 x2 x3 x4 x5 x6 x7 x8 : Int) : Try.prog.built 78 [(0, .int .i64 x0), (1, .int .i64 x1), (2, .int .i64 x2), (3, .int .i64 x3), (4, .agg #[.int .i64 x4, .int .i64 x5, .int .i64 x6, .int .i64 x7]), (5, .int .i64 x8)] =
    some (((((((((zc Try.prog 78).setIfInBounds 0 (.int .i64 x0)).setIfInBounds 1 (.int .i64 x1)).setIfInBounds 2 (.int .i64 x2)).setIfInBounds 3 (.int .i64 x3)).setIfInBounds 4 (.int .i64 x4)).setIfInBounds 5 (.int .i64 x5)).setIfInBounds 6 (.int .i64 x6)).setIfInBounds 7 (.int .i64 x7) |>.setIfInBounds 8 (.int .i64 x8)) := by kernel_rfl

theorem isZ_cv {i : Nat} {v : Value} (h : isZ i v = true) : v = cv i 0 := by
  unfold isZ at h
  split at h
  · rw [cv, if_pos (by simpa using h)]
  · rw [cv, if_neg (by have : 9 ≤ i := by simpa using h
                       omega)]
  · cases h
theorem chk_get : ∀ (l : List Value) (i : Nat), chk i l = true → i + l.length = 14144 ∧ ∀ j, j < l.length → l[j]? = some (cv (i + j) 0)
  | [], i, h => by
    refine ⟨by simpa [chk] using h, fun j hj => absurd hj (by simp)⟩
  | v :: l, i, h => by
    unfold chk at h
    rw [Bool.and_eq_true] at h
    obtain ⟨ih1, ih2⟩ := chk_get l (i + 1) h.2
    refine ⟨by simp only [List.length_cons]; omega, fun j hj => ?_⟩
    cases j with
    | zero => rw [List.getElem?_cons_zero, isZ_cv h.1, Nat.add_zero]
    | succ j =>
      rw [List.getElem?_cons_succ, ih2 j (by simpa using hj)]
      congr 2
      omega
theorem zeros (z : Array Value) (h : chk 0 z.toList = true) : z.size = 14144 ∧ ∀ i, i < 14144 → z[i]? = some (cv i 0) := by
  obtain ⟨h1, h2⟩ := chk_get z.toList 0 h
  have hs : z.size = 14144 := by simpa using h1
  refine ⟨hs, fun i hi => ?_⟩
  have := h2 i (by simpa [hs] using hi)
  rw [Nat.zero_add] at this
  simpa using this
theorem zero_run (t : TypeId) (z : Value) (h : ((Try.prog.info? t).bind (·.zero)) = some z) (w : World) : (zeroValue t).run Try.prog w = .ok z w := by
  obtain ⟨i, hi, hz⟩ := Option.bind_eq_some_iff.1 h
  simp [zeroValue, typeInfo, hi, hz]
theorem zero47 : ∃ z : Array Value, (∀ w, (zeroValue 47).run Try.prog w = .ok (.agg z) w) ∧ z.size = 14144 ∧ ∀ i, i < 14144 → z[i]? = some (cv i 0) :=
  ⟨zc Try.prog 47, zero_run 47 _ agg47, zeros _ chk47⟩
theorem zero50 : ∃ z : Array Value, (∀ w, (zeroValue 50).run Try.prog w = .ok (.agg z) w) ∧ z.size = 14144 ∧ ∀ i, i < 14144 → z[i]? = some (cv i 0) :=
  ⟨zc Try.prog 50, zero_run 50 _ agg50, zeros _ chk50⟩
theorem set_get (z : Array Value) (c : Nat → Int) (hs : z.size = 14144) (h : ∀ i, i < 14144 → z[i]? = some (cv i (c i))) (k : Nat) (hk : k < 9) (x : Int) : (z.setIfInBounds k (.int .i64 x)).size = 14144 ∧ ∀ i, i < 14144 → (z.setIfInBounds k (.int .i64 x))[i]? = some (cv i (upd c k x i)) := by
  refine ⟨by simpa using hs, fun i hi => ?_⟩
  rw [Array.getElem?_setIfInBounds]
  by_cases e : k = i
  · subst e
    rw [if_pos rfl, if_pos (by omega), upd, if_pos rfl, cv, if_pos hk]
  · rw [if_neg e, h i hi, upd, if_neg (fun he => e he.symm)]
theorem build78 (x0 x1 x2 x3 x4 x5 x6 x7 x8 : Int) : ∃ (arr : Array Value) (c : Nat → Int), (∀ w, (Instr.build 78 #[(0, .int .i64 x0), (1, .int .i64 x1), (2, .int .i64 x2), (3, .int .i64 x3), (4, .agg #[.int .i64 x4, .int .i64 x5, .int .i64 x6, .int .i64 x7]), (5, .int .i64 x8)]).run Try.prog w = .ok (.agg arr) w) ∧
    (c 0 = x0 ∧ c 1 = x1 ∧ c 2 = x2) ∧ arr.size = 14144 ∧ ∀ i, i < 14144 → arr[i]? = some (cv i (c i)) := by
  obtain ⟨hs, h⟩ := zeros _ chk78
  obtain ⟨hs, h⟩ := set_get _ _ hs h 0 (by omega) x0
  obtain ⟨hs, h⟩ := set_get _ _ hs h 1 (by omega) x1
  obtain ⟨hs, h⟩ := set_get _ _ hs h 2 (by omega) x2
  obtain ⟨hs, h⟩ := set_get _ _ hs h 3 (by omega) x3
  obtain ⟨hs, h⟩ := set_get _ _ hs h 4 (by omega) x4
  obtain ⟨hs, h⟩ := set_get _ _ hs h 5 (by omega) x5
  obtain ⟨hs, h⟩ := set_get _ _ hs h 6 (by omega) x6
  obtain ⟨hs, h⟩ := set_get _ _ hs h 7 (by omega) x7
  obtain ⟨hs, h⟩ := set_get _ _ hs h 8 (by omega) x8
  refine ⟨_, _, fun w => run_build w 78 _ _ (built78 x0 x1 x2 x3 x4 x5 x6 x7 x8), ?_, hs, h⟩
  simp [upd]

/-- A model as a value. -/
def Agg (cs : Array Value) (c : Nat → Int) : Prop := cs.size = 14144 ∧ ∀ i, i < 14144 → cs[i]? = some (cv i (c i))

end Go.Proofs.Qxb6619462a.Reset
