import Derived.Test.Qxb6619462aImg
import Derived.Deep.RegionWith
namespace Go.Proofs.Qxb6619462a.Reset
open Go.RowKit
set_option linter.unusedVariables false

theorem Done.join {c : Nat → Int} {a b d : Nat} (h : Done c a b) (k : Done c b d) : Done c a d := fun j h1 h2 => by
  by_cases e : j < b
  · exact h j h1 e
  · exact k j (by omega) h2
theorem Done.nil (c : Nat → Int) (a : Nat) : Done c a a := fun j h1 h2 => absurd h2 (by omega)

/-- The seven rows of the first loop. -/
def ivLo (k : Nat) : Nat := [201, 213, 225, 237, 697, 812, 1856].getD k 0
def ivN (k : Nat) : Nat := [12, 12, 12, 12, 115, 16, 12288].getD k 0
theorem iv_bd (k : Nat) (h : k < 7) : 9 ≤ ivLo k ∧ ivLo k + ivN k ≤ 14144 := by
  have e : k = 0 ∨ k = 1 ∨ k = 2 ∨ k = 3 ∨ k = 4 ∨ k = 5 ∨ k = 6 := by omega
  rcases e with rfl | rfl | rfl | rfl | rfl | rfl | rfl <;> decide

/-- What reset leaves of the nine int's. -/
def Hd (c c' : Nat → Int) : Prop := (∀ j, j < 3 → c' j = c j) ∧ ∀ j, 3 ≤ j → j < 9 → c' j = 0
theorem Hd.up {c c1 c2 : Nat → Int} (h : Hd c c1) (u : Up c1 c2) : Hd c c2 := by
  refine ⟨fun j hj => ?_, fun j h1 h2 => ?_⟩
  · rcases u j with e | e
    · rw [e]; exact h.1 j hj
    · omega
  · rcases u j with e | e
    · rw [e]; exact h.2 j h1 h2
    · omega

def rowV (B k : Nat) : Value := .slice (some ⟨B, ivLo k, none⟩) (ivN k) (ivN k)
/-- The state of the first loop: k rows are done. -/
def R1 (w : World) (B L : Nat) (c : Nat → Int) (k : Nat) (wr : World) : Prop :=
  w.grownBy wr (some B) ∧ (∀ j, j < 7 → wr.cell? ⟨L, j, none⟩ = some (rowV B j)) ∧ ∃ c', Img wr B 78 c' ∧ Hd c c' ∧ ∀ j, j < k → Done c' (ivLo j) (ivLo j + ivN j)
theorem R1.step {w wr w' : World} {B L : Nat} {c c' : Nat → Int} {k : Nat} {e : Ending} (hL : L ≠ B) (g : w.grownBy wr (some B)) (hl : ∀ j, j < 7 → wr.cell? ⟨L, j, none⟩ = some (rowV B j)) (h : Hd c c') (D : ∀ j, j < k → Done c' (ivLo j) (ivLo j + ivN j))
    (F : FillPost B 78 c' (ivLo k) (ivN k) wr e w') : e = .returned (.tuple #[]) ∧ R1 w B L c (k + 1) w' := by
  obtain ⟨he, gf, c2, I2, U2, D2⟩ := F
  refine ⟨he, grown_trans g gf, fun j hj => gf.cell (hl j hj) (fun e => hL (Option.some.inj e)), c2, I2, h.up U2, fun j hj => ?_⟩
  by_cases e : j < k
  · exact (D j e).up U2
  · have e : j = k := by omega
    subst e
    exact D2

/-! ### WHAT IS DONE BEHIND EACH LOOP -/
def P1 (c : Nat → Int) : Prop := ∀ j, j < 7 → Done c (ivLo j) (ivLo j + ivN j)
def P2 (c : Nat → Int) (k : Nat) : Prop := P1 c ∧ Done c 9 (9 + 16 * k) ∧ Done c 249 (249 + 16 * k)
def P3 (c : Nat → Int) (k : Nat) : Prop := P2 c 12 ∧ Done c 441 (441 + 64 * k)
def P4 (c : Nat → Int) (k : Nat) : Prop := P3 c 4 ∧ Done c 828 (828 + 514 * k)
def P5 (c : Nat → Int) (k b m : Nat) : Prop := P4 c k ∧ Done c b (b + 2) ∧ Done c (b + 2) (b + 2 + 8 * m) ∧ Done c (b + 130) (b + 130 + 8 * m)
theorem P1.up {c c' : Nat → Int} (h : P1 c) (u : Up c c') : P1 c' := fun j hj => (h j hj).up u
theorem P2.up {c c' : Nat → Int} {k : Nat} (h : P2 c k) (u : Up c c') : P2 c' k := ⟨h.1.up u, h.2.1.up u, h.2.2.up u⟩
theorem P3.up {c c' : Nat → Int} {k : Nat} (h : P3 c k) (u : Up c c') : P3 c' k := ⟨h.1.up u, h.2.up u⟩
theorem P4.up {c c' : Nat → Int} {k : Nat} (h : P4 c k) (u : Up c c') : P4 c' k := ⟨h.1.up u, h.2.up u⟩
theorem P5.up {c c' : Nat → Int} {k b m : Nat} (h : P5 c k b m) (u : Up c c') : P5 c' k b m := ⟨h.1.up u, h.2.1.up u, h.2.2.1.up u, h.2.2.2.up u⟩
theorem Done.cast {c : Nat → Int} {a b a' b' : Nat} (h : Done c a b) (ha : a = a') (hb : b = b') : Done c a' b' := by subst ha hb; exact h
theorem P2.step {c c1 c2 : Nat → Int} {k a b a' b' : Nat} (h : P2 c k) (u1 : Up c c1) (d1 : Done c1 a b) (u2 : Up c1 c2) (d2 : Done c2 a' b') (ha : a = 9 + 16 * k) (hb : b = a + 16) (ha' : a' = 249 + 16 * k) (hb' : b' = a' + 16) : P2 c2 (k + 1) := by
  refine ⟨(h.1.up u1).up u2, ?_, ?_⟩
  · exact (((h.2.1.up u1).up u2).join ((d1.up u2).cast ha (by omega)))
  · exact (((h.2.2.up u1).up u2).join (d2.cast ha' (by omega)))
theorem P3.step {c c1 : Nat → Int} {k a b : Nat} (h : P3 c k) (u1 : Up c c1) (d1 : Done c1 a b) (ha : a = 441 + 64 * k) (hb : b = a + 64) : P3 c1 (k + 1) :=
  ⟨h.1.up u1, (h.2.up u1).join (d1.cast ha (by omega))⟩
theorem P5.step {c c1 c2 : Nat → Int} {k o m a b a' b' : Nat} (h : P5 c k o m) (u1 : Up c c1) (d1 : Done c1 a b) (u2 : Up c1 c2) (d2 : Done c2 a' b') (ha : a = o + 2 + 8 * m) (hb : b = a + 8) (ha' : a' = o + 130 + 8 * m) (hb' : b' = a' + 8) : P5 c2 k o (m + 1) := by
  refine ⟨(h.1.up u1).up u2, (h.2.1.up u1).up u2, ?_, ?_⟩
  · exact (((h.2.2.1.up u1).up u2).join ((d1.up u2).cast ha (by omega)))
  · exact (((h.2.2.2.up u1).up u2).join (d2.cast ha' (by omega)))
set_option maxRecDepth 20000 in
theorem P5.close {c c1 : Nat → Int} {k o a b : Nat} (h : P5 c k o 16) (u1 : Up c c1) (d1 : Done c1 a b) (ho : o = 828 + 514 * k) (ha : a = o + 258) (hb : b = a + 256) : P4 c1 (k + 1) := by
  obtain ⟨h1, h2, h3, h4⟩ := h.up u1
  have a1 : Done c1 (828 + 514 * k) (o + 2) := h2.cast ho rfl
  have a2 : Done c1 (o + 2) (o + 130) := h3.cast rfl (by omega)
  have a3 : Done c1 (o + 130) (o + 258) := h4.cast rfl (by omega)
  have e1 : b = 828 + 514 * (k + 1) := by omega
  have a4 : Done c1 (o + 258) (828 + 514 * (k + 1)) := by rw [← ha, ← e1]; exact d1
  have a5 := ((h1.2.join a1).join a2).join a3
  have a6 := a5.join a4
  exact ⟨h1.1, a6⟩
theorem all_done {c : Nat → Int} (h : P4 c 2) : Done c 9 14144 := by
  obtain ⟨⟨⟨p1, d1, d2⟩, d3⟩, d4⟩ := h
  have q0 : Done c 201 213 := p1 0 (by omega)
  have q1 : Done c 213 225 := p1 1 (by omega)
  have q2 : Done c 225 237 := p1 2 (by omega)
  have q3 : Done c 237 249 := p1 3 (by omega)
  have q4 : Done c 697 812 := p1 4 (by omega)
  have q5 : Done c 812 828 := p1 5 (by omega)
  have q6 : Done c 1856 14144 := p1 6 (by omega)
  have d1' : Done c 9 201 := d1
  have d2' : Done c 249 441 := d2
  have d3' : Done c 441 697 := d3
  have d4' : Done c 828 1856 := d4
  exact ((((((((((d1'.join q0).join q1).join q2).join q3).join d2').join d3').join q4).join q5).join d4').join q6)

/-- The walk's state: image c', its head, what is done. -/
def RS (w : World) (B : Nat) (c : Nat → Int) (P : (Nat → Int) → Prop) (wr : World) : Prop := w.grownBy wr (some B) ∧ ∃ c', Img wr B 78 c' ∧ Hd c c' ∧ P c'
def ptrV (B k : Nat) : Value := .pointer (some ⟨B, 828 + 514 * k, none⟩)

set_option maxRecDepth 20000 in
set_option maxHeartbeats 4000000 in
theorem reset_any (w : World) (B : Nat) (c : Nat → Int) (I : Img w B 78 c) :
    Calls Try.prog 23 #[.pointer (some ⟨B, 0, none⟩)] w fun e w' => e = .returned (.tuple #[]) ∧ RS w B c (fun c' => Done c' 9 14144) w' := by
  have h3 := I.cellH 3 (by omega)
  have h4 := I.cellH 4 (by omega)
  have h5 := I.cellH 5 (by omega)
  have h6 := I.cellH 6 (by omega)
  have h7 := I.cellH 7 (by omega)
  have h8 := I.cellH 8 (by omega)
  have f3 := I.frozen 3
  have f4 := I.frozen 4
  have f5 := I.frozen 5
  have f6 := I.frozen 6
  have f7 := I.frozen 7
  have f8 := I.frozen 8
  have hB := I.lt
  go_enter Try.func23, Try.ntmps23
  go_wp2
  have I0 := (((((I.setH 3 (by omega) 0).setH 4 (by omega) 0).setH 5 (by omega) 0).setH 6 (by omega) 0).setH 7 (by omega) 0).setH 8 (by omega) 0
  have g0 : w.grownBy ((((((w.setCell ⟨B, 3, none⟩ (.int .i64 0)).setCell ⟨B, 4, none⟩ (.int .i64 0)).setCell ⟨B, 5, none⟩ (.int .i64 0)).setCell ⟨B, 6, none⟩ (.int .i64 0)).setCell ⟨B, 7, none⟩ (.int .i64 0)).setCell ⟨B, 8, none⟩ (.int .i64 0)) (some B) := grown_set (grown_set (grown_set (grown_set (grown_set (grown_set (World.grownBy.refl _ _))))))
  have H0 : Hd c (upd (upd (upd (upd (upd (upd c 3 0) 4 0) 5 0) 6 0) 7 0) 8 0) := by
    refine ⟨fun j hj => ?_, fun j h1 h2 => ?_⟩
    · simp only [upd]
      repeat (rw [if_neg (by omega)])
    · have e : j = 3 ∨ j = 4 ∨ j = 5 ∨ j = 6 ∨ j = 7 ∨ j = 8 := by omega
      rcases e with rfl | rfl | rfl | rfl | rfl | rfl <;> rfl
  have hs0 : ((((((w.setCell ⟨B, 3, none⟩ (.int .i64 0)).setCell ⟨B, 4, none⟩ (.int .i64 0)).setCell ⟨B, 5, none⟩ (.int .i64 0)).setCell ⟨B, 6, none⟩ (.int .i64 0)).setCell ⟨B, 7, none⟩ (.int .i64 0)).setCell ⟨B, 8, none⟩ (.int .i64 0)).heap.size = w.heap.size := by simp
  clear h3 h4 h5 h6 h7 h8 f3 f4 f5 f6 f7 f8 I
  generalize ((((((w.setCell ⟨B, 3, none⟩ (.int .i64 0)).setCell ⟨B, 4, none⟩ (.int .i64 0)).setCell ⟨B, 5, none⟩ (.int .i64 0)).setCell ⟨B, 6, none⟩ (.int .i64 0)).setCell ⟨B, 7, none⟩ (.int .i64 0)).setCell ⟨B, 8, none⟩ (.int .i64 0)) = w0 at I0 g0 hs0 ⊢
  generalize (upd (upd (upd (upd (upd (upd c 3 0) 4 0) 5 0) 6 0) 7 0) 8 0) = c0 at I0 H0
  have HS0 : Hid (w0.heap.size = w.heap.size) := hs0
  clear hs0
  go_region
  go_wp2
  go_loopw [49] (fun i wr => ∃ k : Nat, k ≤ 7 ∧ i = .int .i64 k ∧ R1 w B w0.heap.size c k wr) (fun i _ => 7 - (intOf i).toNat)
  case atStart =>
    refine ⟨0, Nat.zero_le _, rfl, ?_, ?_, c0, ?_, H0, fun j hj => absurd hj (by omega)⟩
    · exact grown_trans g0 (by first | exact grown_trans (World.grownBy_alloc _ _ _) (grown_drew _ _) | exact World.grownBy_alloc _ _ _)
    · intro j hj
      have e : j = 0 ∨ j = 1 ∨ j = 2 ∨ j = 3 ∨ j = 4 ∨ j = 5 ∨ j = 6 := by omega
      rcases e with rfl | rfl | rfl | rfl | rfl | rfl | rfl <;> (go_simp; rfl)
    · exact I0.kept (by first | exact grown_trans (World.grownBy_alloc _ _ none) (grown_drew _ _) | exact World.grownBy_alloc _ _ none) (by simp)
  case round =>
    obtain ⟨k, hk, rfl, g, hl, c', I', H', D'⟩ := hrel
    have HH : Hid (Hd c c') := H'
    have HD : Hid (∀ j, j < k → Done c' (ivLo j) (ivLo j + ivN j)) := D'
    have HL : Hid (∀ j, j < 7 → wr.cell? ⟨w0.heap.size, j, none⟩ = some (rowV B j)) := hl
    clear H' D' hl
    by_cases hlt : k < 7
    · have hc : wr.cell? ⟨w0.heap.size, k, none⟩ = some (.slice (some ⟨B, ivLo k, none⟩) (ivN k) (ivN k)) := HL.out k hlt
      have hbd := iv_bd k hlt
      go_wp2_with (go_at_call 26; refine (fill_any _ B 78 c' (ivLo k) (ivN k) (ivN k) I' hbd.1 hbd.2).mono ?_; intro e w' hF; obtain ⟨rfl, hR⟩ := R1.step (L := w0.heap.size) (by have := HS0.out; omega) g HL.out HH.out HD.out hF)
      go_roundw
      case rel => exact ⟨k + 1, by omega, by go_num, hR⟩
      case measure => simp [intOf]; omega
    · have e : k = 7 := by omega
      subst e
      have R0 : RS w B c (fun c' => P2 c' 0) wr := ⟨g, c', I', HH.out, HD.out, Done.nil _ _, Done.nil _ _⟩
      clear HL HD HH I' g
      go_wp2
      go_loopw [56] (fun i wr => ∃ k : Nat, k ≤ 12 ∧ i = .int .i64 k ∧ RS w B c (fun c' => P2 c' k) wr) (fun i _ => 12 - (intOf i).toNat)
      case atStart => exact ⟨0, Nat.zero_le _, rfl, R0⟩
      case round =>
        clear R0
        obtain ⟨k, hk, rfl, g, c1, I1, H1, Q1⟩ := hrel
        have HH : Hid (Hd c c1) := H1
        have HQ : Hid (P2 c1 k) := Q1
        clear H1 Q1
        by_cases hlt : k < 12
        · go_wp2_with fail
          refine (fill_any _ B 78 c1 _ _ _ I1 (by omega) (by omega)).mono ?_
          rintro e w2 ⟨rfl, g2, c2, I2, U2, D2⟩
          go_wp2_with fail
          refine (fill_any _ B 78 c2 _ _ _ I2 (by omega) (by omega)).mono ?_
          rintro e w3 ⟨rfl, g3, c3, I3, U3, D3⟩
          go_wp2
          go_roundw
          case rel => (repeat apply Exists.intro); refine ⟨?_, rfl⟩; exact ⟨k + 1, by omega, by go_num, grown_trans (grown_trans g g2) g3, c3, I3, (HH.out.up U2).up U3, HQ.out.step U2 D2 U3 D3 (by omega) (by omega) (by omega) (by omega)⟩
          case measure => simp [intOf]; omega
        · have e : k = 12 := by omega
          subst e
          have R0 : RS w B c (fun c' => P3 c' 0) wr := ⟨g, c1, I1, HH.out, HQ.out, Done.nil _ _⟩
          clear HQ HH I1 g
          go_wp2
          go_loopw [74] (fun i wr => ∃ k : Nat, k ≤ 4 ∧ i = .int .i64 k ∧ RS w B c (fun c' => P3 c' k) wr) (fun i _ => 4 - (intOf i).toNat)
          case atStart => exact ⟨0, Nat.zero_le _, rfl, R0⟩
          case round =>
            clear R0
            obtain ⟨k, hk, rfl, g, c1, I1, H1, Q1⟩ := hrel
            have HH : Hid (Hd c c1) := H1
            have HQ : Hid (P3 c1 k) := Q1
            clear H1 Q1
            by_cases hlt : k < 4
            · go_wp2_with fail
              refine (fill_any _ B 78 c1 _ _ _ I1 (by omega) (by omega)).mono ?_
              rintro e w2 ⟨rfl, g2, c2, I2, U2, D2⟩
              go_wp2
              go_roundw
              case rel => (repeat apply Exists.intro); refine ⟨?_, rfl⟩; exact ⟨k + 1, by omega, by go_num, grown_trans g g2, c2, I2, HH.out.up U2, HQ.out.step U2 D2 (by omega) (by omega)⟩
              case measure => simp [intOf]; omega
            · have e : k = 4 := by omega
              subst e
              go_wp2
              go_region
              go_wp2
              have hBL : B ≠ wr.heap.size := by have := I1.lt; omega
              have R0 : RS w B c (fun c' => P4 c' 0) (wr.alloc (.cells #[.pointer (some ⟨B, 828, none⟩), .pointer (some ⟨B, 1342, none⟩)] 84)).drew :=
                ⟨grown_d (grown_trans g (World.grownBy_alloc _ _ _)), c1, (I1.kept (World.grownBy_alloc _ _ none) (by simp)).drew, HH.out, HQ.out, Done.nil _ _⟩
              clear HQ HH I1 g
              obtain ⟨L2, hL2⟩ : ∃ L2, wr.heap.size = L2 := ⟨_, rfl⟩
              rw [hL2]
              rw [hL2] at hBL
              have HL2 : Hid (wr.heap.size = L2) := hL2
              clear hL2
              go_loopw [93] (fun i w4 => ∃ k : Nat, k ≤ 2 ∧ i = .int .i64 k ∧ (∀ j, j < 2 → w4.cell? ⟨L2, j, none⟩ = some (ptrV B j)) ∧ RS w B c (fun c' => P4 c' k) w4) (fun i _ => 2 - (intOf i).toNat)
              case atStart =>
                refine ⟨0, Nat.zero_le _, rfl, fun j hj => ?_, R0⟩
                rw [← HL2.out]
                have e : j = 0 ∨ j = 1 := by omega
                rcases e with rfl | rfl <;> (go_simp; rfl)
              case round =>
                clear R0 HL2
                obtain ⟨k, hk, rfl, hl, g, c1, I1, H1, Q1⟩ := hrel
                have HL : Hid (∀ j, j < 2 → wr.cell? ⟨L2, j, none⟩ = some (ptrV B j)) := hl
                have HH : Hid (Hd c c1) := H1
                have HQ : Hid (P4 c1 k) := Q1
                clear H1 Q1 hl
                by_cases hlt : k < 2
                · obtain ⟨b, hb⟩ : ∃ b, b = 828 + 514 * k := ⟨_, rfl⟩
                  have hb1 : 828 ≤ b := by omega
                  have hb2 : b ≤ 1342 := by omega
                  have hcell : wr.cell? ⟨L2, k, none⟩ = some (.pointer (some ⟨B, b, none⟩)) := by rw [hb]; exact HL.out k hlt
                  have HB : Hid (b = 828 + 514 * k) := hb
                  clear hb
                  have q0 := I1.cellU b (by omega) (by omega)
                  have q1 := I1.cellU (b + 1) (by omega) (by omega)
                  have z0 := I1.frozen b
                  have z1 := I1.frozen (b + 1)
                  have hkd : decide ((k : Int) < 2) = true := decide_eq_true (by omega)
                  go_wp2
                  have U0 : Up c1 (upd (upd c1 b 1024) (b + 1) 1024) := ((Up.refl c1).upd b (by omega)).upd (b + 1) (by omega)
                  have R5 : RS w B c (fun c' => P5 c' k b 0) ((wr.setCell ⟨B, b, none⟩ (.int .u16 1024)).setCell ⟨B, b + 1, none⟩ (.int .u16 1024)) :=
                    ⟨grown_set (grown_set g), _, (I1.setU b (by omega) (by omega) 1024).setU (b + 1) (by omega) (by omega) 1024, HH.out.up U0, HQ.out.up U0, ((Done.nil c1 b).upd).upd, Done.nil _ _, Done.nil _ _⟩
                  have HL5 : Hid (∀ j, j < 2 → ((wr.setCell ⟨B, b, none⟩ (.int .u16 1024)).setCell ⟨B, b + 1, none⟩ (.int .u16 1024)).cell? ⟨L2, j, none⟩ = some (ptrV B j)) := fun j hj =>
                    (grown_set (grown_set (World.grownBy.refl wr (some B)))).cell (HL.out j hj) (fun e => hBL (Option.some.inj e).symm)
                  clear q0 q1 z0 z1 U0 HL HH HQ I1 g hcell
                  go_loopw [103] (fun i w5 => ∃ m : Nat, m ≤ 16 ∧ i = .int .i64 m ∧ (∀ j, j < 2 → w5.cell? ⟨L2, j, none⟩ = some (ptrV B j)) ∧ RS w B c (fun c' => P5 c' k b m) w5) (fun i _ => 16 - (intOf i).toNat)
                  case atStart => exact ⟨0, Nat.zero_le _, rfl, HL5.out, R5⟩
                  case round =>
                    clear R5 HL5
                    obtain ⟨m, hm, rfl, hl, g, c1, I1, H1, Q1⟩ := hrel
                    have HL : Hid (∀ j, j < 2 → wr.cell? ⟨L2, j, none⟩ = some (ptrV B j)) := hl
                    have HH : Hid (Hd c c1) := H1
                    have HQ : Hid (P5 c1 k b m) := Q1
                    clear H1 Q1 hl
                    by_cases hlt : m < 16
                    · go_wp2_with fail
                      refine (fill_any _ B 78 c1 _ _ _ I1 (by omega) (by omega)).mono ?_
                      rintro e w2 ⟨rfl, g2, c2, I2, U2, D2⟩
                      go_wp2_with fail
                      refine (fill_any _ B 78 c2 _ _ _ I2 (by omega) (by omega)).mono ?_
                      rintro e w3 ⟨rfl, g3, c3, I3, U3, D3⟩
                      go_wp2
                      go_roundw
                      case rel => (repeat apply Exists.intro); refine ⟨?_, rfl⟩; exact ⟨m + 1, by omega, by go_num, fun j hj => (grown_trans g2 g3).cell (HL.out j hj) (fun e => hBL (Option.some.inj e).symm), grown_trans (grown_trans g g2) g3, c3, I3, (HH.out.up U2).up U3, HQ.out.step U2 D2 U3 D3 (by omega) (by omega) (by omega) (by omega)⟩
                      case measure => simp [intOf]; omega
                    · have e : m = 16 := by omega
                      subst e
                      go_wp2_with fail
                      refine (fill_any _ B 78 c1 _ _ _ I1 (by omega) (by omega)).mono ?_
                      rintro e w2 ⟨rfl, g2, c2, I2, U2, D2⟩
                      go_wp2
                      go_roundw
                      case rel => (repeat apply Exists.intro); refine ⟨?_, rfl⟩; exact ⟨k + 1, by omega, by go_num, fun j hj => g2.cell (HL.out j hj) (fun e => hBL (Option.some.inj e).symm), grown_trans g g2, c2, I2, HH.out.up U2, HQ.out.close U2 D2 HB.out (by omega) (by omega)⟩
                      case measure => simp [intOf]; omega
                · have e : k = 2 := by omega
                  subst e
                  go_wp2
                  go_end0
                  exact ⟨rfl, g, c1, I1, HH.out, all_done HQ.out⟩

end Go.Proofs.Qxb6619462a.Reset
