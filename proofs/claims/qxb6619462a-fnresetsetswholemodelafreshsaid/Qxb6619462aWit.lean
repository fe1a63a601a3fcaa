import Derived.Test.Qxb6619462aOpen
import Derived.Test.Qxb6619462aRows
import Derived.ProofKit
namespace Go.Proofs.Qxb6619462a.Reset
open Go.ChangeShapes Go.WideShapes Go.ChangeAt Go.RowKit
set_option linter.unusedVariables false

/-! ### ONE START THAT FITS: the zero model. Its reading is shown by the types' shapes: a run of 14144 cells in the kernel outgrows the lid. -/
theorem wit_v (os : Os) : (World.plainHolding Try.checked.prog os ⟨#[], #[.agg (zc Try.prog 47)], []⟩).variablesB Try.checked.prog = true := by kernel_rfl
theorem wit_r (os : Os) : ((World.plainHolding Try.checked.prog os ⟨#[], #[.agg (zc Try.prog 47)], []⟩).heap.toList.drop Try.checked.prog.globals.size).take ((begin Try.checked.prog (fun _ _ => 0) default).world.heap.size - Try.checked.prog.globals.size) =
      (begin Try.checked.prog (fun _ _ => 0) default).world.heap.toList.drop Try.checked.prog.globals.size := by kernel_rfl

section
variable {H : Type} (enc : TypeId × Value → H) (w : World)
/-- Cells that are all the number 0 of kind k read, at type t, as a datum without places and weights. -/
def Rd (fuel : Nat) (t : TypeId) (k : IntKind) : Prop := ∀ l : List Value, l.length = Try.prog.cellsOf t → (∀ v ∈ l, v = .int k 0) →
  ∃ d : DataW H, DataW.trod enc Try.prog w 0 (fun _ => true) true fuel t l = some (d, []) ∧ DataW.weights Try.prog t d = []
theorem rd_int (fuel : Nat) (t : TypeId) (k : IntKind) (hu : Try.prog.underlying t = some (.int k)) (hc : Try.prog.cellsOf t = 1) (hw : (Lit.int k 0).wf = true) : Rd enc w (fuel + 1) t k := by
  intro l hl hv
  rw [hc] at hl
  obtain ⟨v, rfl⟩ := List.length_eq_one_iff.1 hl
  obtain rfl := hv v (by simp)
  refine ⟨.lit (.int k 0), ?_, rfl⟩
  simp [DataW.trod, hu, hw]
theorem rd_list (fuel : Nat) (e : TypeId) (cs : List Value) (n : Nat) : ∀ is : List Nat, (∀ i ∈ is, ∃ d : DataW H, DataW.trod enc Try.prog w 0 (fun _ => true) true fuel e ((cs.drop (i * n)).take n) = some (d, []) ∧ DataW.weights Try.prog e d = []) →
    ∃ xs : List (DataW H × List MemPlace), (is.mapM fun i => DataW.trod enc Try.prog w 0 (fun _ => true) true fuel e ((cs.drop (i * n)).take n)) = some xs ∧ xs.flatMap (·.2) = [] ∧ DataW.weightsAll Try.prog e (xs.map (·.1)) = []
  | [], _ => ⟨[], by simp, rfl, rfl⟩
  | i :: is, h => by
    obtain ⟨d, h1, h2⟩ := h i (by simp)
    obtain ⟨xs, g1, g2, g3⟩ := rd_list fuel e cs n is (fun j hj => h j (by simp [hj]))
    refine ⟨(d, []) :: xs, ?_, ?_, ?_⟩
    · rw [List.mapM_cons, h1, g1]
      rfl
    · rw [List.flatMap_cons, g2]
      rfl
    · show DataW.weights Try.prog e d ++ DataW.weightsAll Try.prog e (xs.map (·.1)) = []
      rw [h2, g3]
      rfl
theorem rd_arr (fuel n : Nat) (t e : TypeId) (k : IntKind) (hu : Try.prog.underlying t = some (.array n e)) (hc : Try.prog.cellsOf t = n * Try.prog.cellsOf e) (he : Rd (H := H) enc w fuel e k) : Rd (H := H) enc w (fuel + 1) t k := by
  intro l hl hv
  obtain ⟨xs, g1, g2, g3⟩ := rd_list enc w fuel e l (Try.prog.cellsOf e) (List.range n) (fun i hi => by
    have hi' : i < n := by simpa using hi
    refine he _ ?_ (fun v hv' => hv v (List.mem_of_mem_drop (List.mem_of_mem_take hv')))
    have hm : (i + 1) * Try.prog.cellsOf e ≤ n * Try.prog.cellsOf e := Nat.mul_le_mul_right _ hi'
    rw [Nat.add_mul] at hm
    rw [List.length_take, List.length_drop, hl, hc]
    omega)
  refine ⟨.agg (xs.map (·.1)), ?_, ?_⟩
  · simp only [DataW.trod, hu]
    rw [if_pos hl, g1]
    simp only [Option.map_some, g2]
  · simp only [DataW.weights, hu]
    exact g3
theorem rd_fields (fuel : Nat) (cs : List Value) : ∀ fs : List Field, (∀ f ∈ fs, ∃ d : DataW H, DataW.trod enc Try.prog w 0 (fun _ => true) true fuel f.type ((cs.drop f.offset).take (Try.prog.cellsOf f.type)) = some (d, []) ∧ DataW.weights Try.prog f.type d = []) →
    ∃ xs : List (DataW H × List MemPlace), (fs.mapM fun f => DataW.trod enc Try.prog w 0 (fun _ => true) true fuel f.type ((cs.drop f.offset).take (Try.prog.cellsOf f.type))) = some xs ∧ xs.flatMap (·.2) = [] ∧ DataW.weightsEach Try.prog (fs.map (·.type)) (xs.map (·.1)) = []
  | [], _ => ⟨[], by simp, rfl, rfl⟩
  | f :: fs, h => by
    obtain ⟨d, h1, h2⟩ := h f (by simp)
    obtain ⟨xs, g1, g2, g3⟩ := rd_fields fuel cs fs (fun j hj => h j (by simp [hj]))
    refine ⟨(d, []) :: xs, ?_, ?_, ?_⟩
    · rw [List.mapM_cons, h1, g1]
      rfl
    · rw [List.flatMap_cons, g2]
      rfl
    · show DataW.weights Try.prog f.type d ++ DataW.weightsEach Try.prog (fs.map (·.type)) (xs.map (·.1)) = []
      rw [h2, g3]
      rfl
theorem cells_3 : Try.prog.cellsOf 3 = 1 := by kernel_rfl
theorem cells_28 : Try.prog.cellsOf 28 = 1 := by kernel_rfl
theorem cells_35 : Try.prog.cellsOf 35 = 4 := by kernel_rfl
theorem cells_36 : Try.prog.cellsOf 36 = 16 := by kernel_rfl
theorem cells_37 : Try.prog.cellsOf 37 = 192 := by kernel_rfl
theorem cells_38 : Try.prog.cellsOf 38 = 12 := by kernel_rfl
theorem cells_39 : Try.prog.cellsOf 39 = 64 := by kernel_rfl
theorem cells_40 : Try.prog.cellsOf 40 = 256 := by kernel_rfl
theorem cells_41 : Try.prog.cellsOf 41 = 115 := by kernel_rfl
theorem cells_42 : Try.prog.cellsOf 42 = 8 := by kernel_rfl
theorem cells_43 : Try.prog.cellsOf 43 = 128 := by kernel_rfl
theorem cells_44 : Try.prog.cellsOf 44 = 256 := by kernel_rfl
theorem cells_45 : Try.prog.cellsOf 45 = 12288 := by kernel_rfl
theorem rd_3 : Rd (H := H) enc w 3 3 .i64 := (rd_int enc w 2 3 .i64 Try.underlying3 cells_3 (by decide))
theorem rd_28 : Rd (H := H) enc w 3 28 .u16 := (rd_int enc w 2 28 .u16 Try.underlying28 cells_28 (by decide))
theorem rd_35 : Rd (H := H) enc w 3 35 .i64 := (rd_arr enc w 2 4 35 3 .i64 Try.underlying35 (by rw [cells_35, cells_3]) (rd_int enc w 1 3 .i64 Try.underlying3 cells_3 (by decide)))
theorem rd_36 : Rd (H := H) enc w 3 36 .u16 := (rd_arr enc w 2 16 36 28 .u16 Try.underlying36 (by rw [cells_36, cells_28]) (rd_int enc w 1 28 .u16 Try.underlying28 cells_28 (by decide)))
theorem rd_37 : Rd (H := H) enc w 3 37 .u16 := (rd_arr enc w 2 12 37 36 .u16 Try.underlying37 (by rw [cells_37, cells_36]) (rd_arr enc w 1 16 36 28 .u16 Try.underlying36 (by rw [cells_36, cells_28]) (rd_int enc w 0 28 .u16 Try.underlying28 cells_28 (by decide))))
theorem rd_38 : Rd (H := H) enc w 3 38 .u16 := (rd_arr enc w 2 12 38 28 .u16 Try.underlying38 (by rw [cells_38, cells_28]) (rd_int enc w 1 28 .u16 Try.underlying28 cells_28 (by decide)))
theorem rd_40 : Rd (H := H) enc w 3 40 .u16 := (rd_arr enc w 2 4 40 39 .u16 Try.underlying40 (by rw [cells_40, cells_39]) (rd_arr enc w 1 64 39 28 .u16 Try.underlying39 (by rw [cells_39, cells_28]) (rd_int enc w 0 28 .u16 Try.underlying28 cells_28 (by decide))))
theorem rd_41 : Rd (H := H) enc w 3 41 .u16 := (rd_arr enc w 2 115 41 28 .u16 Try.underlying41 (by rw [cells_41, cells_28]) (rd_int enc w 1 28 .u16 Try.underlying28 cells_28 (by decide)))
theorem rd_43 : Rd (H := H) enc w 3 43 .u16 := (rd_arr enc w 2 16 43 42 .u16 Try.underlying43 (by rw [cells_43, cells_42]) (rd_arr enc w 1 8 42 28 .u16 Try.underlying42 (by rw [cells_42, cells_28]) (rd_int enc w 0 28 .u16 Try.underlying28 cells_28 (by decide))))
theorem rd_44 : Rd (H := H) enc w 3 44 .u16 := (rd_arr enc w 2 256 44 28 .u16 Try.underlying44 (by rw [cells_44, cells_28]) (rd_int enc w 1 28 .u16 Try.underlying28 cells_28 (by decide)))
theorem rd_45 : Rd (H := H) enc w 3 45 .u16 := (rd_arr enc w 2 12288 45 28 .u16 Try.underlying45 (by rw [cells_45, cells_28]) (rd_int enc w 1 28 .u16 Try.underlying28 cells_28 (by decide)))
/-- A field of the zero model. -/
theorem fld (z : Array Value) (hz : z.size = 14144 ∧ ∀ i, i < 14144 → z[i]? = some (cv i 0)) (t off n : Nat) (k : IntKind) (hn : Try.prog.cellsOf t = n) (hk : (k = .i64 ∧ off + n ≤ 9) ∨ (k = .u16 ∧ 9 ≤ off ∧ off + n ≤ 14144)) (h : Rd (H := H) enc w 3 t k) :
    ∃ d : DataW H, DataW.trod enc Try.prog w 0 (fun _ => true) true 3 t ((z.toList.drop off).take (Try.prog.cellsOf t)) = some (d, []) ∧ DataW.weights Try.prog t d = [] := by
  refine h _ ?_ (fun v hv => ?_)
  · rw [List.length_take, List.length_drop, Array.length_toList, hz.1, hn]
    omega
  · rw [hn] at hv
    obtain ⟨j, hj⟩ := List.mem_iff_getElem?.1 hv
    rw [List.getElem?_take] at hj
    split at hj
    · rename_i hjn
      rw [List.getElem?_drop, Array.getElem?_toList, hz.2 (off + j) (by omega)] at hj
      rw [← Option.some.inj hj]
      unfold cv
      rcases hk with ⟨rfl, h1⟩ | ⟨rfl, h1, h2⟩
      · rw [if_pos (by omega)]
      · rw [if_neg (by omega)]
    · cases hj
theorem rd_struct (fuel : Nat) (t : TypeId) (cs : List Value) (fs : Array Field) (hu : Try.prog.underlying t = some (.struct fs)) (hlen : cs.length = Try.prog.cellsOf t)
    (hf : ∀ f ∈ fs.toList, ∃ d : DataW H, DataW.trod enc Try.prog w 0 (fun _ => true) true fuel f.type ((cs.drop f.offset).take (Try.prog.cellsOf f.type)) = some (d, []) ∧ DataW.weights Try.prog f.type d = []) :
    ∃ d : DataW H, DataW.trod enc Try.prog w 0 (fun _ => true) true (fuel + 1) t cs = some (d, []) ∧ DataW.weights Try.prog t d = [] := by
  obtain ⟨xs, g1, g2, g3⟩ := rd_fields enc w fuel cs fs.toList hf
  refine ⟨.agg (xs.map (·.1)), ?_, ?_⟩
  · simp only [DataW.trod, hu]
    rw [if_pos hlen, g1]
    simp only [Option.map_some, g2]
  · simp only [DataW.weights, hu]
    exact g3
theorem rd_zero : ∃ d : DataW H, DataW.trod enc Try.prog w 0 (fun _ => true) true 4 47 (zc Try.prog 47).toList = some (d, []) ∧ DataW.weights Try.prog 47 d = [] := by
  have hz := zeros _ chk47
  generalize zc Try.prog 47 = z at hz
  have hlen : z.toList.length = Try.prog.cellsOf 47 := by rw [Array.length_toList, hz.1, cells47]
  refine rd_struct enc w 3 47 z.toList _ Try.underlying47 hlen ?_
  intro f hf
  simp only [List.mem_cons, List.not_mem_nil, or_false] at hf
  rcases hf with rfl | rfl | rfl | rfl | rfl | rfl | rfl | rfl | rfl | rfl | rfl | rfl | rfl | rfl | rfl | rfl | rfl | rfl | rfl | rfl | rfl | rfl | rfl | rfl | rfl | rfl
  · exact fld enc w z hz 3 0 1 .i64 cells_3 (by simp) (rd_3 enc w)
  · exact fld enc w z hz 3 1 1 .i64 cells_3 (by simp) (rd_3 enc w)
  · exact fld enc w z hz 3 2 1 .i64 cells_3 (by simp) (rd_3 enc w)
  · exact fld enc w z hz 3 3 1 .i64 cells_3 (by simp) (rd_3 enc w)
  · exact fld enc w z hz 35 4 4 .i64 cells_35 (by simp) (rd_35 enc w)
  · exact fld enc w z hz 3 8 1 .i64 cells_3 (by simp) (rd_3 enc w)
  · exact fld enc w z hz 37 9 192 .u16 cells_37 (by simp) (rd_37 enc w)
  · exact fld enc w z hz 38 201 12 .u16 cells_38 (by simp) (rd_38 enc w)
  · exact fld enc w z hz 38 213 12 .u16 cells_38 (by simp) (rd_38 enc w)
  · exact fld enc w z hz 38 225 12 .u16 cells_38 (by simp) (rd_38 enc w)
  · exact fld enc w z hz 38 237 12 .u16 cells_38 (by simp) (rd_38 enc w)
  · exact fld enc w z hz 37 249 192 .u16 cells_37 (by simp) (rd_37 enc w)
  · exact fld enc w z hz 40 441 256 .u16 cells_40 (by simp) (rd_40 enc w)
  · exact fld enc w z hz 41 697 115 .u16 cells_41 (by simp) (rd_41 enc w)
  · exact fld enc w z hz 36 812 16 .u16 cells_36 (by simp) (rd_36 enc w)
  · exact fld enc w z hz 28 828 1 .u16 cells_28 (by simp) (rd_28 enc w)
  · exact fld enc w z hz 28 829 1 .u16 cells_28 (by simp) (rd_28 enc w)
  · exact fld enc w z hz 43 830 128 .u16 cells_43 (by simp) (rd_43 enc w)
  · exact fld enc w z hz 43 958 128 .u16 cells_43 (by simp) (rd_43 enc w)
  · exact fld enc w z hz 44 1086 256 .u16 cells_44 (by simp) (rd_44 enc w)
  · exact fld enc w z hz 28 1342 1 .u16 cells_28 (by simp) (rd_28 enc w)
  · exact fld enc w z hz 28 1343 1 .u16 cells_28 (by simp) (rd_28 enc w)
  · exact fld enc w z hz 43 1344 128 .u16 cells_43 (by simp) (rd_43 enc w)
  · exact fld enc w z hz 43 1472 128 .u16 cells_43 (by simp) (rd_43 enc w)
  · exact fld enc w z hz 44 1600 256 .u16 cells_44 (by simp) (rd_44 enc w)
  · exact fld enc w z hz 45 1856 12288 .u16 cells_45 (by simp) (rd_45 enc w)
end

theorem cell_ok {w : World} {r : Reach} {base : Nat} {u : TypeId} {k : IntKind} (hu : Try.prog.underlying u = some (.int k)) (hk : k.has 0) : Cell.okWide Try.prog w r base u (.int k 0) := by
  simp only [Cell.okWide, hu, Cell.ok]
  exact ⟨trivial, hk⟩

theorem wit_ok (w : World) (base : Nat) : Input.okWide Try.prog w .any base 5 ⟨#[], #[.agg (zc Try.prog 47)], []⟩ := by
  refine ⟨fun o ho => by simp at ho, fun o ho => by simp at ho, by kernel_rfl, Try.f5, Try.func5, by kernel_rfl, by kernel_rfl, by kernel_rfl, by kernel_rfl, ?_⟩
  intro j t v ht hv
  rw [Try.params5] at ht
  have hj : j = 0 := by
    have := (Array.getElem?_eq_some_iff.1 hv).1
    simp at this
    omega
  subst hj
  simp at ht hv
  subst ht hv
  have hz := zeros _ chk47
  generalize zc Try.prog 47 = z at hz
  simp only [Value.okWide, Try.underlying47]
  refine ⟨z, rfl, by rw [hz.1, cells47], ?_⟩
  obtain ⟨ts, hts, hchk⟩ : ∃ ts, Try.prog.cellTypes Try.prog.depth 47 = some ts ∧ chkT 0 ts = true := by
    have := types47
    cases h : Try.prog.cellTypes Try.prog.depth 47 with
    | none => rw [h] at this; cases this
    | some ts => rw [h] at this; exact ⟨ts, rfl, this⟩
  obtain ⟨hl, hg⟩ := chkT_get ts 0 hchk
  rw [Nat.zero_add] at hl
  refine ⟨ts, hts, ⟨1, by rw [hz.1, hl]⟩, fun i v hv => ?_⟩
  have hi : i < 14144 := by
    have := (Array.getElem?_eq_some_iff.1 hv).1
    omega
  rw [hz.2 i hi] at hv
  have hv' := Option.some.inj hv
  subst hv'
  refine ⟨_, by rw [hl, Nat.mod_eq_of_lt hi]; exact hg i (by omega), ?_⟩
  rw [Nat.zero_add]
  unfold cv
  by_cases h9 : i < 9
  · rw [if_pos h9, if_pos h9]
    exact cell_ok Try.underlying3 (by simp [IntKind.has, IntKind.min, IntKind.max, IntKind.signed, IntKind.bits])
  · rw [if_neg h9, if_neg h9]
    exact cell_ok Try.underlying28 (by simp [IntKind.has, IntKind.min, IntKind.max, IntKind.signed, IntKind.bits])

theorem wit_whole {H : Type} (enc : TypeId × Value → H) (w : World) : ∃ d : DataW H, DataW.Whole enc Try.prog Try.f5.params.toList Rows.fnResetSetsWholeModelAfreshSpec.vars false w (#[Value.agg (zc Try.prog 47)] : Array Value).toList [d] [] [] ∧ DataW.weights Try.prog 47 d = [] := by
  obtain ⟨d, h1, h2⟩ := rd_zero enc w
  refine ⟨d, ⟨[], [], ?_, rfl, rfl, fun b off h => (by cases h), fun h => (by cases h)⟩, h2⟩
  rw [Try.params5]
  exact ⟨[], [], ⟨4, h1⟩, rfl, rfl⟩

theorem witness (os : Os) {H : Type} (enc : TypeId × Value → H) : ∃ (w : World) (tape : Tape) (i : Input), w.os = os ∧ (w.forCall tape i).Shaped Try.checked.prog ∧ i.vars = [] ∧ Input.okWide Try.checked.prog (w.forCall tape i) .any w.heap.size 5 i ∧
      Rows.fnResetSetsWholeModelAfreshSpec.pre6 enc Try.checked.prog Try.f5 Rows.fnResetSetsWholeModelAfreshRow.domain false (w.forCall tape i).memory i.args ∧ ({ modest := false } : Assume).holds Try.checked.prog (lone (Frame.enter Try.checked.prog 5 i.args .normal) [] (w.forCall tape i)) := by
  refine ⟨World.holding Try.checked.prog os ⟨#[], #[.agg (zc Try.prog 47)], []⟩, fun _ _ => 0, ⟨#[], #[.agg (zc Try.prog 47)], []⟩, rfl, World.shaped_of_B (wit_v os) (wit_r os), rfl, wit_ok _ _, ⟨?_, ?_⟩, ?_⟩
  · obtain ⟨d, h1, h2⟩ := wit_whole enc ((World.holding Try.checked.prog os ⟨#[], #[.agg (zc Try.prog 47)], []⟩).forCall (fun _ _ => 0) ⟨#[], #[.agg (zc Try.prog 47)], []⟩).memory
    exact ⟨[d], [], [], h1, rfl⟩
  · obtain ⟨d, h1, h2⟩ := wit_whole enc ((World.holding Try.checked.prog os ⟨#[], #[.agg (zc Try.prog 47)], []⟩).forCall (fun _ _ => 0) ⟨#[], #[.agg (zc Try.prog 47)], []⟩).memory
    refine ⟨by kernel_rfl, [d], [], [], h1, ?_⟩
    have e : DataW.weightsEach Try.prog (Try.f5.params.toList ++ (OpenSpec.ofChange Rows.fnResetSetsWholeModelAfreshSpec).bare.plain.varTypes Try.prog) ([d] ++ []) = DataW.weights Try.prog 47 d ++ [] := by
      rw [Try.params5]
      rfl
    show (DataW.weightsEach Try.prog (Try.f5.params.toList ++ (OpenSpec.ofChange Rows.fnResetSetsWholeModelAfreshSpec).bare.plain.varTypes Try.prog) ([d] ++ [])).all _ = true
    rw [e, h2]
    rfl
  · simp only [Assume.holds]
    exact ⟨by simp, by simp, fun _ => Modest.zero, by simp, by simp⟩

end Go.Proofs.Qxb6619462a.Reset
