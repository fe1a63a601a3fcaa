import Derived.Test.Qxb6619462aDec
namespace Go.Proofs.Qxb6619462a
open Go.RowKit
set_option linter.unusedVariables false

set_option maxHeartbeats 400000 in
theorem zzbit_lo (w : World) (b : Nat) (v : Value) (at_ rng code p : Int) (ov : Bool) (hbl : b < w.heap.size) (H : Norm (w.alloc (.cells #[.int .u16 p] 61)) b v at_ rng code ov)
    (h0 : 0 ≤ rng) (h1 : rng < 4294967296) (hp0 : 0 ≤ p) (hp1 : p ≤ 2048)
    (hb : rng / 2048 * p < 4294967296) (hlt : code < rng / 2048 * p) :
    Calls Try.prog 10 #[.pointer (some ⟨b, 0, none⟩), .int .u16 p] w fun e w' => e = .returned (.tuple #[.int .u32 0, .int .u16 (p + (2048 - p) / 32)]) ∧
      w.grownBy w' (some b) ∧ Dec w' b v at_ (rng / 2048 * p) code ov := by
  go_enter Try.func10, Try.ntmps10
  go_wp2_with fail
  refine (bit_lo (w.alloc (.cells #[.int .u16 p] 61)) b w.heap.size v at_ rng code p ov H (by go_simp) (by go_simp) (by omega) h0 h1 hp0 hp1 hb hlt).mono ?_
  rintro e w' ⟨rfl, w1, g1, g2, D, hq⟩
  go_wp2
  go_quiet (fail)
  go_wp2
  go_ret2
  exact ⟨rfl, grown_dN (grown_then (grown_trans (World.grownBy_alloc _ _ _) g1) g2 (fun j hj => .inl (by have := Option.some.inj hj; omega))), D.drewN _⟩

set_option maxHeartbeats 400000 in
theorem zzbit_hi (w : World) (b : Nat) (v : Value) (at_ rng code p : Int) (ov : Bool) (hbl : b < w.heap.size) (H : Norm (w.alloc (.cells #[.int .u16 p] 61)) b v at_ rng code ov)
    (h0 : 0 ≤ rng) (h1 : rng < 4294967296) (hp0 : 0 ≤ p) (hp1 : p ≤ 2048)
    (hb : rng / 2048 * p ≤ rng) (hlt : rng / 2048 * p ≤ code) (hc : code < 4294967296) :
    Calls Try.prog 10 #[.pointer (some ⟨b, 0, none⟩), .int .u16 p] w fun e w' => e = .returned (.tuple #[.int .u32 1, .int .u16 (p - p / 32)]) ∧
      w.grownBy w' (some b) ∧ Dec w' b v at_ (rng - rng / 2048 * p) (code - rng / 2048 * p) ov := by
  go_enter Try.func10, Try.ntmps10
  go_wp2_with fail
  refine (bit_hi (w.alloc (.cells #[.int .u16 p] 61)) b w.heap.size v at_ rng code p ov H (by go_simp) (by go_simp) (by omega) h0 h1 hp0 hp1 hb hlt hc).mono ?_
  rintro e w' ⟨rfl, w1, g1, g2, D, hq⟩
  go_wp2
  go_quiet (fail)
  go_wp2
  go_ret2
  exact ⟨rfl, grown_dN (grown_then (grown_trans (World.grownBy_alloc _ _ _) g1) g2 (fun j hj => .inl (by have := Option.some.inj hj; omega))), D.drewN _⟩

/-! ### ROWS OF BYTES -/
theorem Try.info5 : (Try.prog.info? 5).map (fun i => (i.zero, i.size, i.bytes)) = some (some (.int .u8 0), 1, 1) := by kernel_rfl

/-- From address (g, o) on lie the bytes f 0, f 1, .., f (len - 1). -/
def Byts (w : World) (g o len : Nat) (f : Nat → Int) : Prop := ∀ j, j < len → w.cell? ⟨g, o + j, none⟩ = some (.int .u8 (f j))
theorem Byts.kept {w w' : World} {g o len : Nat} {f : Nat → Int} {row : Option Nat} (h : Byts w g o len f) (k : w.grownBy w' row) (hn : some g ≠ row) : Byts w' g o len f := fun j hj => k.cell (h j hj) hn

/-- Block B, made since w, holds a row of len bytes, of which the first k are f 0 .. f (k - 1). -/
def Filled (w wr : World) (B len k : Nat) (f : Nat → Int) : Prop :=
  w.heap.size ≤ B ∧ w.grownBy wr none ∧ ∃ xs : List Value, wr.ownsRow B 5 1 (.slice (some ⟨B, 0, none⟩) len len) len xs ∧ ∀ j, j < k → xs[j]? = some (.int .u8 (f j))

theorem Filled.cell {w wr : World} {B len k : Nat} {f : Nat → Int} (h : Filled w wr B len k f) (hk : k < len) : ∃ v, wr.cell? ⟨B, k, none⟩ = some v := by
  obtain ⟨_, _, xs, ho, _⟩ := h
  rw [ho.cellAt k (by omega)]
  exact ⟨xs[k]'(by have := ho.1; omega), List.getElem?_eq_getElem _⟩
theorem Filled.frozen {w wr : World} {B len k : Nat} {f : Nat → Int} (h : Filled w wr B len k f) : wr.frozen? ⟨B, k, none⟩ = false := by
  obtain ⟨_, _, xs, ho, _⟩ := h
  exact ho.frozenAt k
theorem Filled.step {w wr : World} {B len k : Nat} {f : Nat → Int} (h : Filled w wr B len k f) (hk : k < len) (x : Int) (hx : x = f k) : Filled w (wr.setCell ⟨B, k, none⟩ (.int .u8 x)) B len (k + 1) f := by
  subst hx
  obtain ⟨hB, hg, xs, ho, hx⟩ := h
  obtain ⟨s1, s2⟩ := ho.stored k (.int .u8 (f k))
  refine ⟨hB, grown_then hg s2 (fun j hj => .inl (by have := Option.some.inj hj; omega)), _, s1, fun j hj => ?_⟩
  rw [List.getElem?_set]
  have hl := ho.1
  by_cases e : k = j
  · subst e
    rw [if_pos rfl, if_pos (by omega)]
  · rw [if_neg e]
    exact hx j (by omega)
theorem Filled.done {w wr : World} {B len : Nat} {f : Nat → Int} (h : Filled w wr B len len f) : w.grownBy wr none ∧ Byts wr B 0 len f := by
  obtain ⟨hB, hg, xs, ho, hx⟩ := h
  refine ⟨hg, fun j hj => ?_⟩
  rw [Nat.zero_add, ho.cellAt j (by omega)]
  exact hx j hj
theorem Filled.lt {w wr : World} {B len k : Nat} {f : Nat → Int} (h : Filled w wr B len k f) : B < wr.heap.size := by
  obtain ⟨hB, hg, xs, ho, hx⟩ := h
  exact (ho.lt B rfl).2
theorem Filled.start {w wr : World} {B len : Nat} {f : Nat → Int} {xs : List Value} (hB : w.heap.size ≤ B) (hg : w.grownBy wr none) (ho : wr.ownsRow B 5 1 (.slice (some ⟨B, 0, none⟩) len len) len xs) : Filled w wr B len 0 f :=
  ⟨hB, hg, xs, ho, fun j hj => absurd hj (by omega)⟩

/-! ### cloneBytes -/
theorem clone_nil (w : World) : Calls Try.prog 8 #[.slice none 0 0] w fun e w' => e = .returned (.slice none 0 0) ∧ w = w' := by
  have q22 : ∀ (w : World) (a : Option Addr) (n c n' c' : Nat), (binOp .eql 22 (.slice a n c) (.slice none n' c')).run Try.prog w = .ok (.bool a.isNone) w := fun w a n c n' c' => Lib.run_eql_slice_nil w _ _ a n c n' c' Try.underlying22
  go_enter Try.func8, Try.ntmps8
  go_wp2
  go_ret
  exact ⟨rfl, rfl⟩

set_option maxHeartbeats 400000 in
theorem clone_some (w : World) (x : Addr) (len cap : Nat) (f : Nat → Int) (hl : len ≤ 1048576) (hx : 0 < len → ∃ b off, x = ⟨b, off, none⟩ ∧ Byts w b off len f) :
    Calls Try.prog 8 #[.slice (some x) len cap] w fun e w' => e = .returned (.slice (some ⟨w.heap.size, 0, none⟩) len len) ∧ w.grownBy w' none ∧ Byts w' w.heap.size 0 len f ∧ w.heap.size < w'.heap.size := by
  have q22 : ∀ (w : World) (a : Option Addr) (n c n' c' : Nat), (binOp .eql 22 (.slice a n c) (.slice none n' c')).run Try.prog w = .ok (.bool a.isNone) w := fun w a n c n' c' => Lib.run_eql_slice_nil w _ _ a n c n' c' Try.underlying22
  obtain ⟨i0, hi, hz0, hz1, hz2⟩ := info_parts Try.info5
  have hml : len ≤ maxLen := by unfold maxLen; omega
  have hby : i0.bytes * len ≤ 281474976710656 := by rw [hz2]; omega
  by_cases hp : 0 < len
  · obtain ⟨b, off, rfl, hb⟩ := hx hp
    go_enter Try.func8, Try.ntmps8
    go_wp2_with (at_make; refine wpList_make_full _ rfl _ _ 22 rfl w.heap.size 5 i0 (.int .u8 0) 1 Try.underlying22 hi hz0 hz1 _ _ _ _ len rfl rfl rfl rfl hby hml (Nat.le_refl _) ?_; intro w1 hown hg)
    have F0 := Filled.start (f := f) (Nat.le_refl _) hg hown
    clear hown hg
    go_loopw [4] (fun i wr => ∃ k : Nat, k ≤ len ∧ i = .int .i64 k ∧ Filled w wr w.heap.size len k f) (fun i _ => len - (intOf i).toNat)
    case atStart => exact ⟨0, Nat.zero_le _, rfl, F0⟩
    case round =>
      obtain ⟨k, hk, rfl, F⟩ := hrel
      by_cases hlt : k < len
      · have hc : wr.cell? ⟨b, off + k, none⟩ = some (.int .u8 (f k)) := F.2.1.cell (hb k hlt) (by simp)
        obtain ⟨v0, hv0⟩ := F.cell hlt
        have hf := F.frozen
        go_wp2
        go_roundw
        case rel => exact ⟨k + 1, by omega, by go_num, F.step hlt _ rfl⟩
        case measure => simp [intOf]; omega
      · go_wp2
        go_ret
        have e : k = len := by omega
        subst e
        exact ⟨rfl, F.done.1, F.done.2, F.lt⟩
  · have hz : len = 0 := by omega
    subst hz
    go_enter Try.func8, Try.ntmps8
    go_wp2_with (at_make; refine wpList_make_full _ rfl _ _ 22 rfl w.heap.size 5 i0 (.int .u8 0) 1 Try.underlying22 hi hz0 hz1 _ _ _ _ 0 rfl rfl rfl rfl (by omega) (by simp) (Nat.le_refl _) ?_; intro w1 hown hg)
    refine wp_loop_rounds 1 ?_; rw [rounds_succ]
    go_wp2
    go_ret
    exact ⟨rfl, hg, fun j hj => absurd hj (by omega), (hown.lt _ rfl).2⟩

end Go.Proofs.Qxb6619462a
