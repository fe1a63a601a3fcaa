import Derived.Test.Qxb6619462aZero
import Derived.Deep.RegionWith
import Derived.Deep.Cut
namespace Go.Proofs.Qxb6619462a.Reset
open Go.RowKit
set_option linter.unusedVariables false

/-- The walk's state in ZZLZMADecoderFields: block B the decoder (image d), block F the fields, block R the result's place; the cells of D are at one half. -/
def OS (w : World) (B F R : Nat) (d : Nat → Int) (D : Nat → Prop) (wr : World) : Prop :=
  w.grownBy wr none ∧ w.heap.size ≤ F ∧ w.heap.size ≤ R ∧ B ≠ F ∧ R ≠ F ∧ Img wr B 78 d ∧ (∃ r, Img wr R 50 r) ∧ ∃ c', Img wr F 50 c' ∧ (∀ j, j < 9 → c' j = d j) ∧ ∀ j, D j → c' j = 1024
theorem OS.drew {w wr : World} {B F R : Nat} {d : Nat → Int} {D : Nat → Prop} (h : OS w B F R d D wr) : OS w B F R d D wr.drew := ⟨grown_d h.1, h.2⟩
theorem OS.weaken {w wr : World} {B F R : Nat} {d : Nat → Int} {D D' : Nat → Prop} (h : OS w B F R d D wr) (hD : ∀ j, D' j → D j) : OS w B F R d D' wr := by
  obtain ⟨a1, a2, a3, a4, a5, a6, a7, c', a8, a9, a10⟩ := h
  exact ⟨a1, a2, a3, a4, a5, a6, a7, c', a8, a9, fun j hj => a10 j (hD j hj)⟩
theorem OS.put {w wr w' : World} {B F R : Nat} {d : Nat → Int} {D D' : Nat → Prop} (h : OS w B F R d D wr) (g : wr.grownBy w' (some F)) (hi : ∀ c, Img wr F 50 c → (∀ j, D j → c j = 1024) → ∃ c2, Img w' F 50 c2 ∧ Up c c2 ∧ ∀ j, D' j → c2 j = 1024) : OS w B F R d D' w' := by
  obtain ⟨a1, a2, a3, a4, a5, a6, ⟨r, a7⟩, c', a8, a9, a10⟩ := h
  obtain ⟨c2, I2, U2, h2⟩ := hi c' a8 a10
  refine ⟨grown_then a1 g (fun j hj => .inl (by have := Option.some.inj hj; omega)), a2, a3, a4, a5, a6.kept g (fun e => a4 (Option.some.inj e)), ⟨r, a7.kept g (fun e => a5 (Option.some.inj e))⟩, c2, I2, fun j hj => ?_, h2⟩
  rcases U2 j with e | e
  · rw [e]; exact a9 j hj
  · omega
theorem out_os {w wr : World} {B F R : Nat} {d : Nat → Int} {D : Nat → Prop} (h : OS w B F R d D wr) (hd : Done d 9 14144) (lo so n cap cap' : Nat) (h9 : 9 ≤ lo) (hn : lo + n ≤ 14144) (s9 : 9 ≤ so) (sn : so + n ≤ 14144) :
    Calls Try.prog 24 #[.slice (some ⟨F, lo, none⟩) n cap, .slice (some ⟨B, so, none⟩) n cap'] wr fun e w' => e = .returned (.tuple #[]) ∧ OS w B F R d (fun j => D j ∨ (lo ≤ j ∧ j < lo + n)) w' := by
  have h' := h
  obtain ⟨a1, a2, a3, a4, a5, a6, a7, c', a8, a9, a10⟩ := h
  refine (out_any wr F B 50 78 c' d lo so n cap cap' a8 a6 a4 h9 hn s9 sn (fun j h1 h2 => hd j (by omega) (by omega))).mono ?_
  rintro e w' ⟨he, g', c2, I2, U2, D2⟩
  refine ⟨he, ?_⟩
  refine ⟨grown_then a1 g' (fun j hj => .inl (by have := Option.some.inj hj; omega)), a2, a3, a4, a5, a6.kept g' (fun e => a4 (Option.some.inj e)), ?_, c2, I2, fun j hj => ?_, fun j hj => ?_⟩
  · obtain ⟨r, a7⟩ := a7
    exact ⟨r, a7.kept g' (fun e => a5 (Option.some.inj e))⟩
  · rcases U2 j with e | e
    · rw [e]; exact a9 j hj
    · omega
  · rcases hj with hj | ⟨h1, h2⟩
    · rcases U2 j with e | e
      · rw [e]; exact a10 j hj
      · exact e.2
    · exact D2 j h1 h2
theorem OS.set {w wr : World} {B F R : Nat} {d : Nat → Int} {D : Nat → Prop} (h : OS w B F R d D wr) (i : Nat) (h9 : 9 ≤ i) (hi : i < 14144) : OS w B F R d (fun j => D j ∨ j = i) (wr.setCell ⟨F, i, none⟩ (.int .u16 1024)) :=
  h.put (grown_setCell wr ⟨F, i, none⟩ _) fun c I hD => ⟨_, I.setU i h9 hi 1024, (Up.refl c).upd i h9, fun j hj => by
    unfold upd
    by_cases e : j = i
    · rw [if_pos e]
    · rw [if_neg e]; exact hD j (hj.resolve_right e)⟩
theorem OS.four {w wr : World} {B F R : Nat} {d : Nat → Int} {D : Nat → Prop} (h : OS w B F R d D wr) (hd : Done d 9 14144) :
    wr.cell? ⟨B, 828, none⟩ = some (.int .u16 1024) ∧ wr.cell? ⟨B, 829, none⟩ = some (.int .u16 1024) ∧ wr.cell? ⟨B, 1342, none⟩ = some (.int .u16 1024) ∧ wr.cell? ⟨B, 1343, none⟩ = some (.int .u16 1024) ∧
    (∃ x, wr.cell? ⟨F, 828, none⟩ = some (.int .u16 x)) ∧ (∃ x, wr.cell? ⟨F, 829, none⟩ = some (.int .u16 x)) ∧ (∃ x, wr.cell? ⟨F, 1342, none⟩ = some (.int .u16 x)) ∧ (∃ x, wr.cell? ⟨F, 1343, none⟩ = some (.int .u16 x)) ∧
    wr.frozen? ⟨F, 828, none⟩ = false ∧ wr.frozen? ⟨F, 829, none⟩ = false ∧ wr.frozen? ⟨F, 1342, none⟩ = false ∧ wr.frozen? ⟨F, 1343, none⟩ = false ∧ B ≠ F := by
  obtain ⟨a1, a2, a3, a4, a5, J, a7, c', I, a9, a10⟩ := h
  have e0 := J.cellU 828 (by omega) (by omega)
  have e1 := J.cellU 829 (by omega) (by omega)
  have e2 := J.cellU 1342 (by omega) (by omega)
  have e3 := J.cellU 1343 (by omega) (by omega)
  rw [hd _ (by omega) (by omega)] at e0 e1 e2 e3
  exact ⟨e0, e1, e2, e3, ⟨_, I.cellU _ (by omega) (by omega)⟩, ⟨_, I.cellU _ (by omega) (by omega)⟩, ⟨_, I.cellU _ (by omega) (by omega)⟩, ⟨_, I.cellU _ (by omega) (by omega)⟩, I.frozen _, I.frozen _, I.frozen _, I.frozen _, a4⟩

/-- What ZZLZMADecoderFields hands back: the nine int's of d, all else at one half. -/
def FPost (w : World) (d : Nat → Int) (e : Ending) (w' : World) : Prop := w.grownBy w' none ∧ ∃ cs c, e = .returned (.agg cs) ∧ Agg cs c ∧ (∀ j, j < 9 → c j = d j) ∧ Done c 9 14144

theorem info50 : (Try.prog.info? 50).map (·.size) = some 14144 := by kernel_rfl
theorem Agg.one {cs : Array Value} {c : Nat → Int} (h : Agg cs c) : cs.all (·.oneCell') = true := by
  rw [Array.all_eq_true]
  intro i hi
  have e := h.2 i (by have := h.1; omega)
  rw [Array.getElem?_eq_getElem hi] at e
  have e' := Option.some.inj e
  rw [e']
  unfold cv
  split <;> rfl
theorem setRow_grown (w : World) (g : Nat) (cs : Array Value) : w.grownBy (w.setRow g cs) (some g) := ⟨rfl, rfl, rfl, by simp, fun k _ hk => setRow_other w g k cs (fun e => hk (by rw [e]))⟩

set_option maxRecDepth 20000 in
set_option maxHeartbeats 4000000 in
theorem fields_any (w : World) (B : Nat) (d : Nat → Int) (I : Img w B 78 d) (hd : Done d 9 14144) :
    Calls Try.prog 16 #[.pointer (some ⟨B, 0, none⟩)] w fun e w' => FPost w d e w' := by
  obtain ⟨z, hz, hZ⟩ := zero50
  have hBl := I.lt
  have gA : w.grownBy ((w.alloc (.cells z 50)).alloc (.cells z 50)) none := grown_trans (World.grownBy_alloc _ _ _) (World.grownBy_alloc _ _ _)
  have IB := I.kept gA (by simp)
  have IR : Img ((w.alloc (.cells z 50)).alloc (.cells z 50)) w.heap.size 50 (fun _ => 0) := ⟨z, heap_alloc2_old w _ _, hZ.1, hZ.2⟩
  have IF : Img ((w.alloc (.cells z 50)).alloc (.cells z 50)) (w.heap.size + 1) 50 (fun _ => 0) := ⟨z, heap_alloc2_new w _ _, hZ.1, hZ.2⟩
  clear hZ I
  go_enter Try.func16, Try.ntmps16
  go_upto_region 2 with fail
  clear hz
  obtain ⟨R, hR⟩ : ∃ R, w.heap.size = R := ⟨_, rfl⟩
  obtain ⟨F, hF⟩ : ∃ F, w.heap.size + 1 = F := ⟨_, rfl⟩
  have hBF : B ≠ F := by omega
  have HRF : Hid (w.heap.size = R ∧ w.heap.size + 1 = F) := ⟨hR, hF⟩
  rw [hF] at IF ⊢
  rw [hR] at IR ⊢
  generalize ((w.alloc (.cells z 50)).alloc (.cells z 50)) = w2 at gA IB IR IF ⊢
  clear hR hF hBl
  have b0 := IB.cellH 0 (by omega)
  have f0 := IF.cellH 0 (by omega)
  have z0 := IF.frozen 0
  have b1 := IB.cellH 1 (by omega)
  have f1 := IF.cellH 1 (by omega)
  have z1 := IF.frozen 1
  have b2 := IB.cellH 2 (by omega)
  have f2 := IF.cellH 2 (by omega)
  have z2 := IF.frozen 2
  have b3 := IB.cellH 3 (by omega)
  have f3 := IF.cellH 3 (by omega)
  have z3 := IF.frozen 3
  have b4 := IB.cellH 4 (by omega)
  have f4 := IF.cellH 4 (by omega)
  have z4 := IF.frozen 4
  have b5 := IB.cellH 5 (by omega)
  have f5 := IF.cellH 5 (by omega)
  have z5 := IF.frozen 5
  have b6 := IB.cellH 6 (by omega)
  have f6 := IF.cellH 6 (by omega)
  have z6 := IF.frozen 6
  have b7 := IB.cellH 7 (by omega)
  have f7 := IF.cellH 7 (by omega)
  have z7 := IF.frozen 7
  have b8 := IB.cellH 8 (by omega)
  have f8 := IF.cellH 8 (by omega)
  have z8 := IF.frozen 8
  go_upto_region 8 with fail
  have gF : w2.grownBy (((((((((w2.setCell ⟨F, 0, none⟩ (.int .i64 (d 0))).setCell ⟨F, 1, none⟩ (.int .i64 (d 1))).setCell ⟨F, 2, none⟩ (.int .i64 (d 2))).setCell ⟨F, 3, none⟩ (.int .i64 (d 3))).setCell ⟨F, 4, none⟩ (.int .i64 (d 4))).setCell ⟨F, 5, none⟩ (.int .i64 (d 5))).setCell ⟨F, 6, none⟩ (.int .i64 (d 6))).setCell ⟨F, 7, none⟩ (.int .i64 (d 7))).setCell ⟨F, 8, none⟩ (.int .i64 (d 8))) (some F) := grown_set (grown_set (grown_set (grown_set (grown_set (grown_set (grown_set (grown_set (grown_set (World.grownBy.refl _ _)))))))))
  have I9 := (((((((((IF.setH 0 (by omega) (d 0)).setH 1 (by omega) (d 1)).setH 2 (by omega) (d 2)).setH 3 (by omega) (d 3)).setH 4 (by omega) (d 4)).setH 5 (by omega) (d 5)).setH 6 (by omega) (d 6)).setH 7 (by omega) (d 7)).setH 8 (by omega) (d 8))
  have N0 : OS w B F R d (fun _ => False) (((((((((w2.setCell ⟨F, 0, none⟩ (.int .i64 (d 0))).setCell ⟨F, 1, none⟩ (.int .i64 (d 1))).setCell ⟨F, 2, none⟩ (.int .i64 (d 2))).setCell ⟨F, 3, none⟩ (.int .i64 (d 3))).setCell ⟨F, 4, none⟩ (.int .i64 (d 4))).setCell ⟨F, 5, none⟩ (.int .i64 (d 5))).setCell ⟨F, 6, none⟩ (.int .i64 (d 6))).setCell ⟨F, 7, none⟩ (.int .i64 (d 7))).setCell ⟨F, 8, none⟩ (.int .i64 (d 8))) := by
    have h1 := HRF.out.1
    have h2 := HRF.out.2
    refine ⟨grown_then gA gF (fun j hj => .inl (by have := Option.some.inj hj; omega)), by omega, by omega, hBF, by omega, IB.kept gF (fun e => hBF (Option.some.inj e)), ⟨_, IR.kept gF (fun e => absurd (Option.some.inj e) (by omega))⟩, _, I9, fun j hj => ?_, fun j hj => hj.elim⟩
    have e : j = 0 ∨ j = 1 ∨ j = 2 ∨ j = 3 ∨ j = 4 ∨ j = 5 ∨ j = 6 ∨ j = 7 ∨ j = 8 := by omega
    rcases e with rfl | rfl | rfl | rfl | rfl | rfl | rfl | rfl | rfl <;> rfl
  generalize (((((((((w2.setCell ⟨F, 0, none⟩ (.int .i64 (d 0))).setCell ⟨F, 1, none⟩ (.int .i64 (d 1))).setCell ⟨F, 2, none⟩ (.int .i64 (d 2))).setCell ⟨F, 3, none⟩ (.int .i64 (d 3))).setCell ⟨F, 4, none⟩ (.int .i64 (d 4))).setCell ⟨F, 5, none⟩ (.int .i64 (d 5))).setCell ⟨F, 6, none⟩ (.int .i64 (d 6))).setCell ⟨F, 7, none⟩ (.int .i64 (d 7))).setCell ⟨F, 8, none⟩ (.int .i64 (d 8))) = w3 at N0 ⊢
  clear gF I9 gA IB IR IF b0 f0 z0 b1 f1 z1 b2 f2 z2 b3 f3 z3 b4 f4 z4 b5 f5 z5 b6 f6 z6 b7 f7 z7 b8 f8 z8
  go_wp2_with fail
  go_loopw [37] (fun i wr => ∃ k : Nat, k ≤ 12 ∧ i = .int .i64 k ∧ OS w B F R d (fun j => (9 ≤ j ∧ j < 9 + 16 * k) ∨ (249 ≤ j ∧ j < 249 + 16 * k)) wr) (fun i _ => 12 - (intOf i).toNat)
  case atStart => exact ⟨0, Nat.zero_le _, rfl, N0.weaken (fun j hj => by omega)⟩
  case round =>
    clear N0
    obtain ⟨k, hk, rfl, N1⟩ := hrel
    by_cases hlt : k < 12
    · go_wp2_with fail
      go_region_with (go_at_call 24; refine (out_os (OS.drew N1) hd _ _ _ _ _ (by omega) (by omega) (by omega) (by omega)).mono ?_; rintro e w' ⟨rfl, N2⟩)
      clear N1
      go_wp2_with fail
      go_region_with (go_at_call 24; refine (out_os (OS.drew N2) hd _ _ _ _ _ (by omega) (by omega) (by omega) (by omega)).mono ?_; rintro e w' ⟨rfl, N3⟩)
      clear N2
      go_wp2
      go_roundw
      case rel => exact ⟨k + 1, by omega, by go_num, N3.weaken (fun j hj => by omega)⟩
      case measure => simp [intOf]; omega
    · have e : k = 12 := by omega
      subst e
      go_wp2_with fail
      go_region_with (go_at_call 24; refine (out_os (OS.drew N1) hd _ _ _ _ _ (by omega) (by omega) (by omega) (by omega)).mono ?_; rintro e w' ⟨rfl, N2⟩)
      clear N1
      go_wp2_with fail
      go_region_with (go_at_call 24; refine (out_os (OS.drew N2) hd _ _ _ _ _ (by omega) (by omega) (by omega) (by omega)).mono ?_; rintro e w' ⟨rfl, N3⟩)
      clear N2
      go_wp2_with fail
      go_region_with (go_at_call 24; refine (out_os (OS.drew N3) hd _ _ _ _ _ (by omega) (by omega) (by omega) (by omega)).mono ?_; rintro e w' ⟨rfl, N4⟩)
      clear N3
      go_wp2_with fail
      go_region_with (go_at_call 24; refine (out_os (OS.drew N4) hd _ _ _ _ _ (by omega) (by omega) (by omega) (by omega)).mono ?_; rintro e w' ⟨rfl, N5⟩)
      clear N4
      go_wp2_with fail
      go_loopw [91] (fun i wr => ∃ k : Nat, k ≤ 4 ∧ i = .int .i64 k ∧ OS w B F R d (fun j => ((9 ≤ j ∧ j < 441)) ∨ (441 ≤ j ∧ j < 441 + 64 * k)) wr) (fun i _ => 4 - (intOf i).toNat)
      case atStart => exact ⟨0, Nat.zero_le _, rfl, N5.weaken (fun j hj => by omega)⟩
      case round =>
        clear N5
        obtain ⟨k, hk, rfl, N1⟩ := hrel
        by_cases hlt : k < 4
        · go_wp2_with fail
          go_region_with (go_at_call 24; refine (out_os (OS.drew N1) hd _ _ _ _ _ (by omega) (by omega) (by omega) (by omega)).mono ?_; rintro e w' ⟨rfl, N2⟩)
          clear N1
          go_wp2
          go_roundw
          case rel => exact ⟨k + 1, by omega, by go_num, N2.weaken (fun j hj => by omega)⟩
          case measure => simp [intOf]; omega
        · have e : k = 4 := by omega
          subst e
          go_wp2_with fail
          go_region_with (go_at_call 24; refine (out_os (OS.drew N1) hd _ _ _ _ _ (by omega) (by omega) (by omega) (by omega)).mono ?_; rintro e w' ⟨rfl, N2⟩)
          clear N1
          go_wp2_with fail
          go_region_with (go_at_call 24; refine (out_os (OS.drew N2) hd _ _ _ _ _ (by omega) (by omega) (by omega) (by omega)).mono ?_; rintro e w' ⟨rfl, N3⟩)
          clear N2
          obtain ⟨q0, q1, q2, q3, ⟨x0, r0⟩, ⟨x1, r1⟩, ⟨x2, r2⟩, ⟨x3, r3⟩, z0, z1, z2, z3, hSB⟩ := N3.four hd
          go_wp2_with fail
          have N4 := (((N3.set 828 (by omega) (by omega)).set 829 (by omega) (by omega)).set 1342 (by omega) (by omega)).set 1343 (by omega) (by omega)
          clear q0 q1 q2 q3 r0 r1 r2 r3 z0 z1 z2 z3 N3
          go_loopw [144] (fun i wr => ∃ k : Nat, k ≤ 16 ∧ i = .int .i64 k ∧ OS w B F R d (fun j => ((9 ≤ j ∧ j < 830) ∨ j = 1342 ∨ j = 1343) ∨ (830 ≤ j ∧ j < 830 + 8 * k) ∨ (958 ≤ j ∧ j < 958 + 8 * k) ∨ (1344 ≤ j ∧ j < 1344 + 8 * k) ∨ (1472 ≤ j ∧ j < 1472 + 8 * k)) wr) (fun i _ => 16 - (intOf i).toNat)
          case atStart => exact ⟨0, Nat.zero_le _, rfl, N4.weaken (fun j hj => by omega)⟩
          case round =>
            clear N4
            obtain ⟨k, hk, rfl, N1⟩ := hrel
            by_cases hlt : k < 16
            · go_wp2_with fail
              go_region_with (go_at_call 24; refine (out_os (OS.drew N1) hd _ _ _ _ _ (by omega) (by omega) (by omega) (by omega)).mono ?_; rintro e w' ⟨rfl, N2⟩)
              clear N1
              go_wp2_with fail
              go_region_with (go_at_call 24; refine (out_os (OS.drew N2) hd _ _ _ _ _ (by omega) (by omega) (by omega) (by omega)).mono ?_; rintro e w' ⟨rfl, N3⟩)
              clear N2
              go_wp2_with fail
              go_region_with (go_at_call 24; refine (out_os (OS.drew N3) hd _ _ _ _ _ (by omega) (by omega) (by omega) (by omega)).mono ?_; rintro e w' ⟨rfl, N4⟩)
              clear N3
              go_wp2_with fail
              go_region_with (go_at_call 24; refine (out_os (OS.drew N4) hd _ _ _ _ _ (by omega) (by omega) (by omega) (by omega)).mono ?_; rintro e w' ⟨rfl, N5⟩)
              clear N4
              go_wp2
              go_roundw
              case rel => exact ⟨k + 1, by omega, by go_num, N5.weaken (fun j hj => by omega)⟩
              case measure => simp [intOf]; omega
            · have e : k = 16 := by omega
              subst e
              go_wp2_with fail
              go_region_with (go_at_call 24; refine (out_os (OS.drew N1) hd _ _ _ _ _ (by omega) (by omega) (by omega) (by omega)).mono ?_; rintro e w' ⟨rfl, N2⟩)
              clear N1
              go_wp2_with fail
              go_region_with (go_at_call 24; refine (out_os (OS.drew N2) hd _ _ _ _ _ (by omega) (by omega) (by omega) (by omega)).mono ?_; rintro e w' ⟨rfl, N3⟩)
              clear N2
              go_wp2_with fail
              go_region_with (go_at_call 24; refine (out_os (OS.drew N3) hd _ _ _ _ _ (by omega) (by omega) (by omega) (by omega)).mono ?_; rintro e w' ⟨rfl, N4⟩)
              clear N3
              have N5 := N4.weaken (D' := fun j => 9 ≤ j ∧ j < 14144) (fun j hj => by omega)
              clear N4
              obtain ⟨a1, a2, a3, a4, a5, a6, ⟨r, old, gR, sR, _⟩, c', ⟨cs, gF, sF, eF⟩, a9, a10⟩ := N5
              have hA : Agg cs c' := ⟨sF, eF⟩
              go_upto_region 40 with fail
              refine wp_region_lit ?_
              refine wpList_load_row rfl 50 _ rfl F rfl 50 cs (0, 0) _ gF Try.underlying50 rfl (by rw [sF]; exact info50) ?_
              refine wpList_store_row rfl 50 _ _ rfl R cs rfl rfl 50 old gR (by rw [sF]; exact info50) (by rw [sR, sF]) hA.one ?_
              have gR' := setRow_heap _ R old cs 50 (0, 0) gR
              have fin : FPost w d (.returned (.agg cs)) _ := ⟨grown_then a1 (setRow_grown _ R cs) (fun j hj => .inl (by have := Option.some.inj hj; omega)), cs, c', rfl, hA, a9, fun j h1 h2 => a10 j ⟨h1, h2⟩⟩
              have HFin : Hid (FPost w d (.returned (.agg cs)) _) := fin
              clear fin hA a1 a2 a3 a4 a5 a6 a9 a10 gF eF gR sR
              go_wp2
              exact bodyPost_ret (results_cell_row rfl _ _ R 50 cs (0, 0) _ rfl gR' Try.underlying50 rfl (by rw [sF]; exact info50)) rfl HFin.out

end Go.Proofs.Qxb6619462a.Reset
