import Derived.Test.Qxb6619462aBits
namespace Go.Proofs.Qxb6619462a
open Go.RowKit
set_option linter.unusedVariables false

theorem zb13 (a : Option Addr) (len cap : Nat) (a1 a2 a3 a5 : Int) (a4 : Bool) (w : World) (hl : len ≤ 1048576) :
    Calls Try.prog 13 #[.slice a len cap, .int .i64 a1, .int .u32 a2, .int .u32 a3, .bool a4, .int .u16 a5] w fun e w' => e = .returned (.bool true) ∧ w = w' := by
  go_enter Try.func13, Try.ntmps13
  go_wp2
  go_ret
  exact ⟨rfl, rfl⟩
theorem zb13_no (a : Option Addr) (len cap : Nat) (a1 a2 a3 a5 : Int) (a4 : Bool) (w : World) (hl : ¬ len ≤ 1048576) :
    Calls Try.prog 13 #[.slice a len cap, .int .i64 a1, .int .u32 a2, .int .u32 a3, .bool a4, .int .u16 a5] w fun e w' => e = .returned (.bool false) ∧ w = w' := by
  go_enter Try.func13, Try.ntmps13
  go_wp2
  go_ret
  exact ⟨rfl, rfl⟩

theorem zzbit_lo' (w : World) (b : Nat) (v : Value) (at_ rng code p B : Int) (ov : Bool) (D : Dec w b v at_ 0 0 ov ∨ b < w.heap.size) (H : Norm (w.alloc (.cells #[.int .u16 p] 61)) b v at_ rng code ov)
    (hB : rng / 2048 * p = B) (h0 : 0 ≤ rng) (h1 : rng < 4294967296) (hp0 : 0 ≤ p) (hp1 : p ≤ 2048) (hb : B ≤ rng) (hlt : code < B) :
    Calls Try.prog 10 #[.pointer (some ⟨b, 0, none⟩), .int .u16 p] w fun e w' => e = .returned (.tuple #[.int .u32 0, .int .u16 (p + (2048 - p) / 32)]) ∧
      w.grownBy w' (some b) ∧ Dec w' b v at_ B code ov := by
  subst hB
  refine zzbit_lo w b v at_ rng code p ov ?_ H h0 h1 hp0 hp1 (by omega) hlt
  rcases D with D | D
  · exact D.lt
  · exact D

theorem zzbit_hi' (w : World) (b : Nat) (v : Value) (at_ rng code p B : Int) (ov : Bool) (D : Dec w b v at_ 0 0 ov ∨ b < w.heap.size) (H : Norm (w.alloc (.cells #[.int .u16 p] 61)) b v at_ rng code ov)
    (hB : rng / 2048 * p = B) (h0 : 0 ≤ rng) (h1 : rng < 4294967296) (hp0 : 0 ≤ p) (hp1 : p ≤ 2048) (hb : B ≤ rng) (hlt : B ≤ code) (hc : code < 4294967296) :
    Calls Try.prog 10 #[.pointer (some ⟨b, 0, none⟩), .int .u16 p] w fun e w' => e = .returned (.tuple #[.int .u32 1, .int .u16 (p - p / 32)]) ∧
      w.grownBy w' (some b) ∧ Dec w' b v at_ (rng - B) (code - B) ov := by
  subst hB
  refine zzbit_hi w b v at_ rng code p ov ?_ H h0 h1 hp0 hp1 hb hlt hc
  rcases D with D | D
  · exact D.lt
  · exact D

theorem ret_bool {b : Bool} (h : b = true) : Ending.returned (.bool b) = .returned (.bool true) := by rw [h]

/-- normalize TURNS (at, rng, code) INTO (at', rng', code'), in whatever block the decoder lies (not that of the bytes). -/
def Turns (v : Value) (g : Option Nat) (len : Nat) (f : Nat → Int) (at_ rng code at' rng' code' : Int) (ov : Bool) : Prop :=
  ∀ (W : World) (b : Nat), some b ≠ g → Dec W b v at_ rng code ov → (∀ g0, g = some g0 → Byts W g0 0 len f) → Norm W b v at' rng' code' ov

set_option maxRecDepth 20000 in
set_option maxHeartbeats 1000000 in
/-- The law where the input is not nil and every early test says no. -/
theorem mirror_some (x : Addr) (len cap : Nat) (f : Nat → Int) (at_ rng code p at' rng' code' B : Int) (ov : Bool) (w : World)
    (hl : len ≤ 1048576) (hx : 0 < len → ∃ b off, x = ⟨b, off, none⟩ ∧ Byts w b off len f) (hf : ∀ j, 0 ≤ f j ∧ f j ≤ 255)
    (ha : 0 ≤ at_) (hr : rng % 2048 = 0) (hr0 : 0 ≤ rng) (hr1 : rng < 4294967296) (hc : code < rng) (hc0 : 0 ≤ code) (hp0 : 0 ≤ p) (hp : p ≤ 2048) (hin : 16777216 ≤ rng ∨ at_ < len)
    (T1 : ∀ g, Turns (.slice (some ⟨g, 0, none⟩) len len) (some g) len f at_ rng code at' rng' code' ov)
    (T2 : ∀ g, Turns (.slice (some ⟨g, 0, none⟩) len len) (some g) len (fun j => 255 - f j) at_ rng (rng - 1 - code) at' rng' (rng' - 1 - code') ov)
    (hr0' : 0 ≤ rng') (hr1' : rng' < 4294967296) (hc' : code' < rng') (hc0' : 0 ≤ code') (hB : rng' / 2048 * p = B) (hB2 : rng' / 2048 * (2048 - p) = rng' - B) (hB0 : 0 ≤ B) (hB1 : B ≤ rng') :
    Calls Try.prog 4 #[.slice (some x) len cap, .int .i64 at_, .int .u32 rng, .int .u32 code, .bool ov, .int .u16 p] w fun e w' => e = .returned (.bool true) ∧ Below w.heap.size w w' := by
  have HB : Hid (rng' / 2048 * p = B) := hB
  have HB2 : Hid (rng' / 2048 * (2048 - p) = rng' - B) := hB2
  have HF : Hid (∀ j, 0 ≤ f j ∧ f j ≤ 255) := hf
  have HX : Hid (0 < len → ∃ b off, x = ⟨b, off, none⟩ ∧ Byts w b off len f) := hx
  have HT1 : Hid (∀ g, Turns (.slice (some ⟨g, 0, none⟩) len len) (some g) len f at_ rng code at' rng' code' ov) := T1
  have HT2 : Hid (∀ g, Turns (.slice (some ⟨g, 0, none⟩) len len) (some g) len (fun j => 255 - f j) at_ rng (rng - 1 - code) at' rng' (rng' - 1 - code') ov) := T2
  clear hB hB2 hf hx T1 T2
  obtain ⟨i0, hi, hz0, hz1, hz2⟩ := info_parts Try.info5
  have hml : len ≤ maxLen := by unfold maxLen; omega
  have hby : i0.bytes * len ≤ 281474976710656 := by rw [hz2]; omega
  have t1 : ((rng % 2048 : Int) == 0) = true := by simp [hr]
  have h24 : ((rng < 16777216) ∧ ((at_ : Int) < len)) ∨ (¬ rng < 16777216) := by omega
  clear hin
  rcases h24 with ⟨h24, hal⟩ | h24
  all_goals
    go_enter Try.func4, Try.ntmps4
    go_wp2_with (first | (go_at_call 13; refine (zb13 _ _ _ _ _ _ _ _ _ hl).mono ?_; rintro e w' ⟨rfl, rfl⟩) | (go_at_call 8; refine (clone_some _ x len cap f hl HX.out).mono ?_; rintro e w1 ⟨rfl, g1, B1, l1⟩) | (at_make; refine wpList_make_full _ rfl _ _ 22 rfl _ 5 i0 (.int .u8 0) 1 Try.underlying22 hi hz0 hz1 _ _ _ _ len rfl rfl rfl rfl hby hml (Nat.le_refl _) ?_; intro w2 hown hg))
    have F0 := Filled.start (f := fun j => 255 - f j) (Nat.le_refl _) hg hown
    clear hown hg
    go_loopw [14] (fun i wr => ∃ k : Nat, k ≤ len ∧ i = .int .i64 k ∧ Filled w1 wr w1.heap.size len k (fun j => 255 - f j)) (fun i _ => len - (intOf i).toNat)
    case atStart => exact ⟨0, Nat.zero_le _, rfl, F0⟩
    case round =>
      clear F0
      obtain ⟨k, hk, rfl, F⟩ := hrel
      by_cases hlt : k < len
      · have hcl : wr.cell? ⟨w.heap.size, k, none⟩ = some (.int .u8 (f k)) := by
          have := F.2.1.cell (B1 k hlt) (by simp)
          rwa [Nat.zero_add] at this
        obtain ⟨v0, hv0⟩ := F.cell hlt
        have hfz := F.frozen
        obtain ⟨hf0, hf1⟩ := HF.out k
        go_wp2
        go_roundw
        case rel => exact ⟨k + 1, by omega, by go_num, F.step hlt _ rfl⟩
        case measure => simp [intOf]; omega
      · have e : k = len := by omega
        subst e
        obtain ⟨g2, B2⟩ := F.done
        have l2 := F.lt
        clear F
        go_wp2_with fail
        refine (newDec wr _ at_ rng code ov _ _ _ rfl).mono ?_
        rintro e w3 ⟨rfl, D1, g3, s3⟩
        go_wp2_with fail
        refine (newDec w3 _ at_ rng (rng - 1 - code) ov _ _ _ rfl).mono ?_
        rintro e w4 ⟨rfl, D2, g4, s4⟩
        rw [s3] at D2 s4
        by_cases hcb : code' < B
        · go_wp2_with fail
          refine (zzbit_lo' w4 _ _ at' rng' code' p B ov (.inr (by have := g4.size; omega)) (HT1.out w.heap.size _ _ (by simp; omega) ((D1.kept g4 (by simp)).kept (World.grownBy_alloc _ _ none) (by simp)) (fun g0 hg0 => by cases hg0; exact (((B1.kept g2 (by simp)).kept g3 (by simp)).kept g4 (by simp)).kept (World.grownBy_alloc _ _ none) (by simp))) HB.out hr0' hr1' hp0 hp hB1 hcb).mono ?_
          rintro e w5 ⟨rfl, g5, D1'⟩
          have D2' := ((D2.kept g5 (by simp)).kept (World.grownBy_alloc w5 (.cells #[.int .u16 (2048 - p)] 61) none) (by simp))
          have B2' := (((B2.kept g3 (by simp)).kept g4 (by simp)).kept g5 (by simp; omega)).kept (World.grownBy_alloc w5 (.cells #[.int .u16 (2048 - p)] 61) none) (by simp)
          go_wp2_with fail
          refine (zzbit_hi' w5 _ _ at' rng' (rng' - 1 - code') (2048 - p) (rng' - B) ov (.inr (by have := g4.size; have := g5.size; omega)) (HT2.out w1.heap.size _ _ (by simp; omega) D2' (fun g0 hg0 => by cases hg0; exact B2')) HB2.out hr0' hr1' (by omega) (by omega) (by omega) (by omega) (by omega)).mono ?_
          rintro e w6 ⟨rfl, g6, D2''⟩
          go_wp2_with fail
          refine (decState w6 _ _ _ _ _ _ (D1'.kept g6 (by simp))).mono ?_
          rintro e w7 ⟨rfl, n7, rfl⟩
          go_wp2_with fail
          refine (decState _ _ _ _ _ _ _ (D2''.drewN _)).mono ?_
          rintro e w8 ⟨rfl, n8, rfl⟩
          go_wp2
          go_ret
          refine ⟨ret_bool (b := (rng' - 1 - code' - (rng' - B) == B - 1 - code')) (by simp; omega), ?_⟩
          have b1 : Below w.heap.size w w1 := (Below.refl _ _).grown g1 (Nat.le_refl _) (by simp)
          have b2 := b1.grown g2 (by omega) (by simp)
          have b3 := b2.grown g3 (by omega) (by simp)
          have b4 := b3.grown g4 (by omega) (by simp)
          have b5 := b4.grown g5 (by have := g4.size; omega) (by simp; omega)
          have b6 := b5.grown g6 (by have := g4.size; have := g5.size; omega) (by simp; omega)
          exact ⟨b6.os, b6.tape, b6.output, b6.size, b6.block⟩
        · go_wp2_with fail
          refine (zzbit_hi' w4 _ _ at' rng' code' p B ov (.inr (by have := g4.size; omega)) (HT1.out w.heap.size _ _ (by simp; omega) ((D1.kept g4 (by simp)).kept (World.grownBy_alloc _ _ none) (by simp)) (fun g0 hg0 => by cases hg0; exact (((B1.kept g2 (by simp)).kept g3 (by simp)).kept g4 (by simp)).kept (World.grownBy_alloc _ _ none) (by simp))) HB.out hr0' hr1' hp0 hp hB1 (by omega) (by omega)).mono ?_
          rintro e w5 ⟨rfl, g5, D1'⟩
          have D2' := ((D2.kept g5 (by simp)).kept (World.grownBy_alloc w5 (.cells #[.int .u16 (2048 - p)] 61) none) (by simp))
          have B2' := (((B2.kept g3 (by simp)).kept g4 (by simp)).kept g5 (by simp; omega)).kept (World.grownBy_alloc w5 (.cells #[.int .u16 (2048 - p)] 61) none) (by simp)
          go_wp2_with fail
          refine (zzbit_lo' w5 _ _ at' rng' (rng' - 1 - code') (2048 - p) (rng' - B) ov (.inr (by have := g4.size; have := g5.size; omega)) (HT2.out w1.heap.size _ _ (by simp; omega) D2' (fun g0 hg0 => by cases hg0; exact B2')) HB2.out hr0' hr1' (by omega) (by omega) (by omega) (by omega)).mono ?_
          rintro e w6 ⟨rfl, g6, D2''⟩
          go_wp2_with fail
          refine (decState w6 _ _ _ _ _ _ (D1'.kept g6 (by simp))).mono ?_
          rintro e w7 ⟨rfl, n7, rfl⟩
          go_wp2_with fail
          refine (decState _ _ _ _ _ _ _ (D2''.drewN _)).mono ?_
          rintro e w8 ⟨rfl, n8, rfl⟩
          go_wp2
          go_ret
          refine ⟨ret_bool (b := (rng' - 1 - code' == rng' - B - 1 - (code' - B))) (by simp; omega), ?_⟩
          have b1 : Below w.heap.size w w1 := (Below.refl _ _).grown g1 (Nat.le_refl _) (by simp)
          have b2 := b1.grown g2 (by omega) (by simp)
          have b3 := b2.grown g3 (by omega) (by simp)
          have b4 := b3.grown g4 (by omega) (by simp)
          have b5 := b4.grown g5 (by have := g4.size; omega) (by simp; omega)
          have b6 := b5.grown g6 (by have := g4.size; have := g5.size; omega) (by simp; omega)
          exact ⟨b6.os, b6.tape, b6.output, b6.size, b6.block⟩

set_option maxRecDepth 20000 in
set_option maxHeartbeats 1000000 in
/-- The law where the input is nil and every early test says no. -/
theorem mirror_nil (f : Nat → Int) (at_ rng code p at' rng' code' B : Int) (ov : Bool) (w : World)
    (ha : 0 ≤ at_) (hr : rng % 2048 = 0) (hr0 : 0 ≤ rng) (hr1 : rng < 4294967296) (hc : code < rng) (hc0 : 0 ≤ code) (hp0 : 0 ≤ p) (hp : p ≤ 2048) (h24 : ¬ rng < 16777216)
    (T1 : Turns (.slice none 0 0) none 0 f at_ rng code at' rng' code' ov)
    (T2 : ∀ g, Turns (.slice (some ⟨g, 0, none⟩) 0 0) (some g) 0 (fun j => 255 - f j) at_ rng (rng - 1 - code) at' rng' (rng' - 1 - code') ov)
    (hr0' : 0 ≤ rng') (hr1' : rng' < 4294967296) (hc' : code' < rng') (hc0' : 0 ≤ code') (hB : rng' / 2048 * p = B) (hB2 : rng' / 2048 * (2048 - p) = rng' - B) (hB0 : 0 ≤ B) (hB1 : B ≤ rng') :
    Calls Try.prog 4 #[.slice none 0 0, .int .i64 at_, .int .u32 rng, .int .u32 code, .bool ov, .int .u16 p] w fun e w' => e = .returned (.bool true) ∧ Below w.heap.size w w' := by
  have HB : Hid (rng' / 2048 * p = B) := hB
  have HB2 : Hid (rng' / 2048 * (2048 - p) = rng' - B) := hB2
  have HT1 : Hid (Turns (.slice none 0 0) none 0 f at_ rng code at' rng' code' ov) := T1
  have HT2 : Hid (∀ g, Turns (.slice (some ⟨g, 0, none⟩) 0 0) (some g) 0 (fun j => 255 - f j) at_ rng (rng - 1 - code) at' rng' (rng' - 1 - code') ov) := T2
  clear hB hB2 T1 T2
  obtain ⟨i0, hi, hz0, hz1, hz2⟩ := info_parts Try.info5
  have t1 : ((rng % 2048 : Int) == 0) = true := by simp [hr]
  go_enter Try.func4, Try.ntmps4
  go_wp2_with (first | (go_at_call 13; refine (zb13 _ _ _ _ _ _ _ _ _ (Nat.zero_le _)).mono ?_; rintro e w' ⟨rfl, rfl⟩) | (go_at_call 8; refine (clone_nil _).mono ?_; rintro e w' ⟨rfl, rfl⟩) | (at_make; refine wpList_make_full _ rfl _ _ 22 rfl _ 5 i0 (.int .u8 0) 1 Try.underlying22 hi hz0 hz1 _ _ _ _ 0 rfl rfl rfl rfl (by omega) (by simp) (Nat.le_refl _) ?_; intro wr hown g2))
  have F0 := Filled.start (f := fun j => 255 - f j) (Nat.le_refl _) g2 hown
  have B2 := F0.done.2
  have l2 := F0.lt
  clear hown F0
  refine wp_loop_rounds 1 ?_; rw [rounds_succ]
  go_wp2_with fail
  refine (newDec wr _ at_ rng code ov _ _ _ rfl).mono ?_
  rintro e w3 ⟨rfl, D1, g3, s3⟩
  go_wp2_with fail
  refine (newDec w3 _ at_ rng (rng - 1 - code) ov _ _ _ rfl).mono ?_
  rintro e w4 ⟨rfl, D2, g4, s4⟩
  rw [s3] at D2 s4
  by_cases hcb : code' < B
  · go_wp2_with fail
    refine (zzbit_lo' w4 _ _ at' rng' code' p B ov (.inr (by have := g4.size; omega)) (HT1.out _ _ (by simp) ((D1.kept g4 (by simp)).kept (World.grownBy_alloc _ _ none) (by simp)) (fun g0 hg0 => by cases hg0)) HB.out hr0' hr1' hp0 hp hB1 hcb).mono ?_
    rintro e w5 ⟨rfl, g5, D1'⟩
    have D2' := ((D2.kept g5 (by simp)).kept (World.grownBy_alloc w5 (.cells #[.int .u16 (2048 - p)] 61) none) (by simp))
    have B2' := (((B2.kept g3 (by simp)).kept g4 (by simp)).kept g5 (by simp; omega)).kept (World.grownBy_alloc w5 (.cells #[.int .u16 (2048 - p)] 61) none) (by simp)
    go_wp2_with fail
    refine (zzbit_hi' w5 _ _ at' rng' (rng' - 1 - code') (2048 - p) (rng' - B) ov (.inr (by have := g4.size; have := g5.size; omega)) (HT2.out w.heap.size _ _ (by simp; omega) D2' (fun g0 hg0 => by cases hg0; exact B2')) HB2.out hr0' hr1' (by omega) (by omega) (by omega) (by omega) (by omega)).mono ?_
    rintro e w6 ⟨rfl, g6, D2''⟩
    go_wp2_with fail
    refine (decState w6 _ _ _ _ _ _ (D1'.kept g6 (by simp))).mono ?_
    rintro e w7 ⟨rfl, n7, rfl⟩
    go_wp2_with fail
    refine (decState _ _ _ _ _ _ _ (D2''.drewN _)).mono ?_
    rintro e w8 ⟨rfl, n8, rfl⟩
    go_wp2
    go_ret
    refine ⟨ret_bool (b := (rng' - 1 - code' - (rng' - B) == B - 1 - code')) (by simp; omega), ?_⟩
    have b2 : Below w.heap.size w wr := (Below.refl _ _).grown g2 (Nat.le_refl _) (by simp)
    have b3 := b2.grown g3 (by omega) (by simp)
    have b4 := b3.grown g4 (by omega) (by simp)
    have b5 := b4.grown g5 (by have := g4.size; omega) (by simp; omega)
    have b6 := b5.grown g6 (by have := g4.size; have := g5.size; omega) (by simp; omega)
    exact ⟨b6.os, b6.tape, b6.output, b6.size, b6.block⟩
  · go_wp2_with fail
    refine (zzbit_hi' w4 _ _ at' rng' code' p B ov (.inr (by have := g4.size; omega)) (HT1.out _ _ (by simp) ((D1.kept g4 (by simp)).kept (World.grownBy_alloc _ _ none) (by simp)) (fun g0 hg0 => by cases hg0)) HB.out hr0' hr1' hp0 hp hB1 (by omega) (by omega)).mono ?_
    rintro e w5 ⟨rfl, g5, D1'⟩
    have D2' := ((D2.kept g5 (by simp)).kept (World.grownBy_alloc w5 (.cells #[.int .u16 (2048 - p)] 61) none) (by simp))
    have B2' := (((B2.kept g3 (by simp)).kept g4 (by simp)).kept g5 (by simp; omega)).kept (World.grownBy_alloc w5 (.cells #[.int .u16 (2048 - p)] 61) none) (by simp)
    go_wp2_with fail
    refine (zzbit_lo' w5 _ _ at' rng' (rng' - 1 - code') (2048 - p) (rng' - B) ov (.inr (by have := g4.size; have := g5.size; omega)) (HT2.out w.heap.size _ _ (by simp; omega) D2' (fun g0 hg0 => by cases hg0; exact B2')) HB2.out hr0' hr1' (by omega) (by omega) (by omega) (by omega)).mono ?_
    rintro e w6 ⟨rfl, g6, D2''⟩
    go_wp2_with fail
    refine (decState w6 _ _ _ _ _ _ (D1'.kept g6 (by simp))).mono ?_
    rintro e w7 ⟨rfl, n7, rfl⟩
    go_wp2_with fail
    refine (decState _ _ _ _ _ _ _ (D2''.drewN _)).mono ?_
    rintro e w8 ⟨rfl, n8, rfl⟩
    go_wp2
    go_ret
    refine ⟨ret_bool (b := (rng' - 1 - code' == rng' - B - 1 - (code' - B))) (by simp; omega), ?_⟩
    have b2 : Below w.heap.size w wr := (Below.refl _ _).grown g2 (Nat.le_refl _) (by simp)
    have b3 := b2.grown g3 (by omega) (by simp)
    have b4 := b3.grown g4 (by omega) (by simp)
    have b5 := b4.grown g5 (by have := g4.size; omega) (by simp; omega)
    have b6 := b5.grown g6 (by have := g4.size; have := g5.size; omega) (by simp; omega)
    exact ⟨b6.os, b6.tape, b6.output, b6.size, b6.block⟩

end Go.Proofs.Qxb6619462a
