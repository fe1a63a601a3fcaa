import Derived.Test.Qxb6619462aZero
import Derived.Deep.RegionWith
import Derived.Deep.Cut
namespace Go.Proofs.Qxb6619462a.Reset
open Go.RowKit
set_option linter.unusedVariables false

theorem Agg.img {cs : Array Value} {c : Nat → Int} (h : Agg cs c) (w : World) (T : TypeId) : Img (w.alloc (.cells cs T)) w.heap.size T c := ⟨cs, heap_alloc_new w _, h.1, h.2⟩

/-- The walk's state in ZZNewLZMADecoder: block S the fields, block B the decoder. -/
def NS (w : World) (S B : Nat) (c : Nat → Int) (wr : World) : Prop := w.grownBy wr none ∧ w.heap.size ≤ B ∧ S ≠ B ∧ Img wr S 50 c ∧ ∃ c', Img wr B 78 c' ∧ ∀ j, j < 3 → c' j = c j

theorem wpList_build' {P : Program} {ops : Array Oper} {rest : List Oper} {o : Oper} {a : Act} {w : World} {Q : Exit → Act → World → Prop} (hg : o.guard = none) (t : TypeId) (parts : Array (Nat × Operand)) (ho : o.op = .build t parts)
    (parts' : Array (Nat × Value)) (arr : Array Value) (hb : (Instr.build t parts').run P w = .ok (.agg arr) w) (hp : (parts.map fun (i, x) => (i, a.eval x)) = parts')
    (h : wpList P ops Q rest (a.put o.dst (.agg arr)) w) : wpList P ops Q (o :: rest) a w := by
  refine wpList_plain hg fun K hK => ?_
  subst hp
  unfold Oper.wp execOp
  simp only [ho, Sem.run_bind, hb, Result.andThen_ok, Sem.run_pure]
  exact hK _ _ h

theorem NS.drew {w wr : World} {S B : Nat} {c : Nat → Int} (h : NS w S B c wr) : NS w S B c wr.drew := ⟨grown_d h.1, h.2.1, h.2.2.1, h.2.2.2.1, h.2.2.2.2⟩
theorem NS.drewN {w wr : World} {S B : Nat} {c : Nat → Int} (h : NS w S B c wr) (n : Nat) : NS w S B c (wr.drewN n) := ⟨grown_dN h.1, h.2.1, h.2.2.1, h.2.2.2.1, h.2.2.2.2⟩
theorem in_ns {w wr : World} {S B : Nat} {c : Nat → Int} (h : NS w S B c wr) (lo so n cap cap' : Nat) (h9 : 9 ≤ lo) (hn : lo + n ≤ 14144) (s9 : 9 ≤ so) (sn : so + n ≤ 14144) :
    Calls Try.prog 22 #[.slice (some ⟨B, lo, none⟩) n cap, .slice (some ⟨S, so, none⟩) n cap'] wr fun e w' => e = .returned (.tuple #[]) ∧ NS w S B c w' := by
  obtain ⟨g, hB, hne, J, c', I, hh⟩ := h
  refine (in_any wr B S 78 50 c' c lo so n cap cap' I J hne h9 hn s9 sn).mono ?_
  rintro e w' ⟨he, g', c2, I2, h2⟩
  exact ⟨he, grown_then g g' (fun j hj => .inl (by have := Option.some.inj hj; omega)), hB, hne, J.kept g' (fun e => hne (Option.some.inj e)), c2, I2, fun j hj => (h2 j (by omega)).trans (hh j hj)⟩

theorem NS.four {w wr : World} {S B : Nat} {c : Nat → Int} (h : NS w S B c wr) :
    wr.cell? ⟨S, 828, none⟩ = some (.int .u16 (c 828)) ∧ wr.cell? ⟨S, 829, none⟩ = some (.int .u16 (c 829)) ∧ wr.cell? ⟨S, 1342, none⟩ = some (.int .u16 (c 1342)) ∧ wr.cell? ⟨S, 1343, none⟩ = some (.int .u16 (c 1343)) ∧
    (∃ x, wr.cell? ⟨B, 828, none⟩ = some (.int .u16 x)) ∧ (∃ x, wr.cell? ⟨B, 829, none⟩ = some (.int .u16 x)) ∧ (∃ x, wr.cell? ⟨B, 1342, none⟩ = some (.int .u16 x)) ∧ (∃ x, wr.cell? ⟨B, 1343, none⟩ = some (.int .u16 x)) ∧
    wr.frozen? ⟨B, 828, none⟩ = false ∧ wr.frozen? ⟨B, 829, none⟩ = false ∧ wr.frozen? ⟨B, 1342, none⟩ = false ∧ wr.frozen? ⟨B, 1343, none⟩ = false ∧ S ≠ B := by
  obtain ⟨g, hB, hne, J, c', I, hh⟩ := h
  exact ⟨J.cellU _ (by omega) (by omega), J.cellU _ (by omega) (by omega), J.cellU _ (by omega) (by omega), J.cellU _ (by omega) (by omega), ⟨_, I.cellU _ (by omega) (by omega)⟩, ⟨_, I.cellU _ (by omega) (by omega)⟩, ⟨_, I.cellU _ (by omega) (by omega)⟩, ⟨_, I.cellU _ (by omega) (by omega)⟩, I.frozen _, I.frozen _, I.frozen _, I.frozen _, hne⟩
theorem NS.set {w wr : World} {S B : Nat} {c : Nat → Int} (h : NS w S B c wr) (i : Nat) (h9 : 9 ≤ i) (hi : i < 14144) (x : Int) : NS w S B c (wr.setCell ⟨B, i, none⟩ (.int .u16 x)) := by
  obtain ⟨g, hB, hne, J, c', I, hh⟩ := h
  have g' := grown_setCell wr ⟨B, i, none⟩ (.int .u16 x)
  exact ⟨grown_then g g' (fun j hj => .inl (by have := Option.some.inj hj; simp only at this; omega)), hB, hne, J.kept g' (fun e => hne (Option.some.inj e)), _, I.setU i h9 hi x, fun j hj => by unfold upd; rw [if_neg (by omega)]; exact hh j hj⟩

set_option maxRecDepth 20000 in
set_option maxHeartbeats 4000000 in
theorem new_any (w : World) (cs : Array Value) (c : Nat → Int) (hA : Agg cs c) :
    Calls Try.prog 14 #[.agg cs] w fun e w' => ∃ B, e = .returned (.pointer (some ⟨B, 0, none⟩)) ∧ NS w w.heap.size B c w' := by
  have I0 := hA.img w 50
  have g0 := World.grownBy_alloc w (.cells cs 50) none
  obtain ⟨arr, c', hb, hc', hB⟩ := build78 (c 0) (c 1) (c 2) (c 3) (c 4) (c 5) (c 6) (c 7) (c 8)
  have HB : Hid (Agg arr c' ∧ c' 0 = c 0 ∧ c' 1 = c 1 ∧ c' 2 = c 2) := ⟨hB, hc'⟩
  clear hA hB hc'
  go_enter Try.func14, Try.ntmps14
  go_upto_region 1 with fail
  obtain ⟨S, hS⟩ : ∃ S, w.heap.size = S := ⟨_, rfl⟩
  rw [hS] at I0 ⊢
  generalize w.alloc (.cells cs 50) = w1 at I0 g0 ⊢
  have HS : Hid (w.heap.size = S) := hS
  clear hS
  have h0 := I0.cellH 0 (by omega)
  have h1 := I0.cellH 1 (by omega)
  have h2 := I0.cellH 2 (by omega)
  have h3 := I0.cellH 3 (by omega)
  have h4 := I0.cellH 4 (by omega)
  have h5 := I0.cellH 5 (by omega)
  have h6 := I0.cellH 6 (by omega)
  have h7 := I0.cellH 7 (by omega)
  have h8 := I0.cellH 8 (by omega)
  refine wp_region_lit ?_
  iterate 36 go_step
  refine wpList_build' rfl 78 _ rfl _ arr (hb _) (by go_simp) ?_
  go_wp2_with fail
  have N0 : NS w S w1.heap.size c (w1.alloc (.cells arr 78)) := by
    have hl := I0.lt
    refine ⟨grown_trans g0 (World.grownBy_alloc _ _ _), g0.size, by omega, I0.kept (World.grownBy_alloc _ _ none) (by simp), c', HB.out.1.img w1 78, fun j hj => ?_⟩
    have e : j = 0 ∨ j = 1 ∨ j = 2 := by omega
    rcases e with rfl | rfl | rfl
    · exact HB.out.2.1
    · exact HB.out.2.2.1
    · exact HB.out.2.2.2
  generalize w1.heap.size = B at N0 ⊢
  clear h0 h1 h2 h3 h4 h5 h6 h7 h8 hb HB I0 g0
  go_loopw [21] (fun i wr => ∃ k : Nat, k ≤ 12 ∧ i = .int .i64 k ∧ NS w S B c wr) (fun i _ => 12 - (intOf i).toNat)
  case atStart => exact ⟨0, Nat.zero_le _, rfl, N0⟩
  case round =>
    clear N0
    obtain ⟨k, hk, rfl, N1⟩ := hrel
    by_cases hlt : k < 12
    · go_wp2_with fail
      go_region_with (go_at_call 22; refine (in_ns (NS.drew N1) _ _ _ _ _ (by omega) (by omega) (by omega) (by omega)).mono ?_; rintro e w' ⟨rfl, N2⟩)
      clear N1
      go_wp2_with fail
      go_region_with (go_at_call 22; refine (in_ns (NS.drew N2) _ _ _ _ _ (by omega) (by omega) (by omega) (by omega)).mono ?_; rintro e w' ⟨rfl, N3⟩)
      clear N2
      go_wp2
      go_roundw
      case rel => exact ⟨k + 1, by omega, by go_num, N3⟩
      case measure => simp [intOf]; omega
    · go_wp2_with fail
      go_region_with (go_at_call 22; refine (in_ns (NS.drew N1) _ _ _ _ _ (by omega) (by omega) (by omega) (by omega)).mono ?_; rintro e w' ⟨rfl, N2⟩)
      clear N1
      go_wp2_with fail
      go_region_with (go_at_call 22; refine (in_ns (NS.drew N2) _ _ _ _ _ (by omega) (by omega) (by omega) (by omega)).mono ?_; rintro e w' ⟨rfl, N3⟩)
      clear N2
      go_wp2_with fail
      go_region_with (go_at_call 22; refine (in_ns (NS.drew N3) _ _ _ _ _ (by omega) (by omega) (by omega) (by omega)).mono ?_; rintro e w' ⟨rfl, N4⟩)
      clear N3
      go_wp2_with fail
      go_region_with (go_at_call 22; refine (in_ns (NS.drew N4) _ _ _ _ _ (by omega) (by omega) (by omega) (by omega)).mono ?_; rintro e w' ⟨rfl, N5⟩)
      clear N4
      go_wp2_with fail
      go_loopw [75] (fun i wr => ∃ k : Nat, k ≤ 4 ∧ i = .int .i64 k ∧ NS w S B c wr) (fun i _ => 4 - (intOf i).toNat)
      case atStart => exact ⟨0, Nat.zero_le _, rfl, N5⟩
      case round =>
        clear N5
        obtain ⟨k, hk, rfl, N1⟩ := hrel
        by_cases hlt : k < 4
        · go_wp2_with fail
          go_region_with (go_at_call 22; refine (in_ns (NS.drew N1) _ _ _ _ _ (by omega) (by omega) (by omega) (by omega)).mono ?_; rintro e w' ⟨rfl, N2⟩)
          clear N1
          go_wp2
          go_roundw
          case rel => exact ⟨k + 1, by omega, by go_num, N2⟩
          case measure => simp [intOf]; omega
        · go_wp2_with fail
          go_region_with (go_at_call 22; refine (in_ns (NS.drew N1) _ _ _ _ _ (by omega) (by omega) (by omega) (by omega)).mono ?_; rintro e w' ⟨rfl, N2⟩)
          clear N1
          go_wp2_with fail
          go_region_with (go_at_call 22; refine (in_ns (NS.drew N2) _ _ _ _ _ (by omega) (by omega) (by omega) (by omega)).mono ?_; rintro e w' ⟨rfl, N3⟩)
          clear N2
          obtain ⟨q0, q1, q2, q3, ⟨x0, r0⟩, ⟨x1, r1⟩, ⟨x2, r2⟩, ⟨x3, r3⟩, z0, z1, z2, z3, hSB⟩ := N3.four
          go_wp2_with fail
          have N4 := (((N3.set 828 (by omega) (by omega) (c 828)).set 829 (by omega) (by omega) (c 829)).set 1342 (by omega) (by omega) (c 1342)).set 1343 (by omega) (by omega) (c 1343)
          clear q0 q1 q2 q3 r0 r1 r2 r3 z0 z1 z2 z3 N3
          go_loopw [128] (fun i wr => ∃ k : Nat, k ≤ 16 ∧ i = .int .i64 k ∧ NS w S B c wr) (fun i _ => 16 - (intOf i).toNat)
          case atStart => exact ⟨0, Nat.zero_le _, rfl, N4⟩
          case round =>
            clear N4
            obtain ⟨k, hk, rfl, N1⟩ := hrel
            by_cases hlt : k < 16
            · go_wp2_with fail
              go_region_with (go_at_call 22; refine (in_ns (NS.drew N1) _ _ _ _ _ (by omega) (by omega) (by omega) (by omega)).mono ?_; rintro e w' ⟨rfl, N2⟩)
              clear N1
              go_wp2_with fail
              go_region_with (go_at_call 22; refine (in_ns (NS.drew N2) _ _ _ _ _ (by omega) (by omega) (by omega) (by omega)).mono ?_; rintro e w' ⟨rfl, N3⟩)
              clear N2
              go_wp2_with fail
              go_region_with (go_at_call 22; refine (in_ns (NS.drew N3) _ _ _ _ _ (by omega) (by omega) (by omega) (by omega)).mono ?_; rintro e w' ⟨rfl, N4⟩)
              clear N3
              go_wp2_with fail
              go_region_with (go_at_call 22; refine (in_ns (NS.drew N4) _ _ _ _ _ (by omega) (by omega) (by omega) (by omega)).mono ?_; rintro e w' ⟨rfl, N5⟩)
              clear N4
              go_wp2
              go_roundw
              case rel => exact ⟨k + 1, by omega, by go_num, N5⟩
              case measure => simp [intOf]; omega
            · go_wp2_with fail
              go_region_with (go_at_call 22; refine (in_ns (NS.drew N1) _ _ _ _ _ (by omega) (by omega) (by omega) (by omega)).mono ?_; rintro e w' ⟨rfl, N2⟩)
              clear N1
              go_wp2_with fail
              go_region_with (go_at_call 22; refine (in_ns (NS.drew N2) _ _ _ _ _ (by omega) (by omega) (by omega) (by omega)).mono ?_; rintro e w' ⟨rfl, N3⟩)
              clear N2
              go_wp2_with fail
              go_region_with (go_at_call 22; refine (in_ns (NS.drew N3) _ _ _ _ _ (by omega) (by omega) (by omega) (by omega)).mono ?_; rintro e w' ⟨rfl, N4⟩)
              clear N3
              go_wp2
              go_ret
              exact ⟨B, rfl, by rw [HS.out]; exact N4⟩

end Go.Proofs.Qxb6619462a.Reset
