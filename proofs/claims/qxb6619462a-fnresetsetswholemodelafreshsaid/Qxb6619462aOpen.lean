import Derived.Test.Qxb6619462aZero
import Derived.ProofKit
import Derived.WideShapes
namespace Go.Proofs.Qxb6619462a.Reset
open Go.ChangeShapes Go.WideShapes Go.ChangeAt Go.RowKit
set_option linter.unusedVariables false

def chkT : Nat → List TypeId → Bool
  | i, [] => i == 14144
  | i, u :: l => (u == if i < 9 then 3 else 28) && chkT (i + 1) l
theorem chkT_get : ∀ (l : List TypeId) (i : Nat), chkT i l = true → i + l.length = 14144 ∧ ∀ j, j < l.length → l[j]? = some (if i + j < 9 then 3 else 28)
  | [], i, h => by
    refine ⟨by simpa [chkT] using h, fun j hj => absurd hj (by simp)⟩
  | v :: l, i, h => by
    unfold chkT at h
    rw [Bool.and_eq_true] at h
    obtain ⟨ih1, ih2⟩ := chkT_get l (i + 1) h.2
    refine ⟨by simp only [List.length_cons]; omega, fun j hj => ?_⟩
    cases j with
    | zero => rw [List.getElem?_cons_zero, eq_of_beq h.1, Nat.add_zero]
    | succ j =>
      rw [List.getElem?_cons_succ, ih2 j (by simpa using hj), show i + 1 + j = i + (j + 1) by omega]
theorem types47 : (Try.prog.cellTypes Try.prog.depth 47).any (chkT 0) = true := by kernel_rfl
theorem cells47 : Try.prog.cellsOf 47 = 14144 := by kernel_rfl

theorem cell_int {w : World} {r : Reach} {base : Nat} {u : TypeId} {v : Value} {k : IntKind} (hu : Try.prog.underlying u = some (.int k)) (h : Cell.okWide Try.prog w r base u v) : ∃ n, v = .int k n := by
  simp only [hu, Cell.okWide] at h
  cases v <;> simp_all [Cell.ok]

/-- The parameter, opened: its cells are nine int's and uint16's. -/
theorem open47 {w : World} {r : Reach} {base : Nat} {v : Value} (h : Value.okWide Try.prog w r base 47 v) : ∃ cs c, v = .agg cs ∧ Agg cs c := by
  simp only [Value.okWide, Try.underlying47] at h
  obtain ⟨cs, rfl, hs, ts, ht, _, hc⟩ := h
  rw [cells47] at hs
  have hchk : chkT 0 ts = true := by
    have := types47
    rw [ht] at this
    exact this
  obtain ⟨hl, hg⟩ := chkT_get ts 0 hchk
  rw [Nat.zero_add] at hl
  refine ⟨cs, fun i => match cs[i]? with | some (.int _ n) => n | _ => 0, rfl, hs, fun i hi => ?_⟩
  have hlt : i < cs.size := by omega
  have e := Array.getElem?_eq_getElem hlt
  obtain ⟨u, hu, hcell⟩ := hc i cs[i] e
  rw [hl, Nat.mod_eq_of_lt hi, hg i (by omega), Nat.zero_add] at hu
  have hu' := Option.some.inj hu
  by_cases h9 : i < 9
  · rw [if_pos h9] at hu'
    subst hu'
    obtain ⟨n, hn⟩ := cell_int Try.underlying3 hcell
    simp only [cv, if_pos h9, e, hn]
  · rw [if_neg h9] at hu'
    subst hu'
    obtain ⟨n, hn⟩ := cell_int Try.underlying28 hcell
    simp only [cv, if_neg h9, e, hn]

end Go.Proofs.Qxb6619462a.Reset
