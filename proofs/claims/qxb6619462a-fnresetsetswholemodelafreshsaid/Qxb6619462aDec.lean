import Derived.Test.Qxb6619462aRows
import Derived.WalkKit
import Derived.WalkSpells
import Derived.WalkLawsBesides
import Derived.ProofKit
import Derived.Below
import Derived.Deep.QuietTactic
import Derived.BigQuiet
import Derived.BigRegion
namespace Go.Proofs.Qxb6619462a
open Go.RowKit
set_option linter.unusedVariables false

/-! ### FRAMES -/
theorem grown_setCell (w : World) (a : Addr) (u : Value) : w.grownBy (w.setCell a u) (some a.block) :=
  ⟨rfl, rfl, rfl, by simp [World.setCell], fun k hk hn => Below.heap_setCell _ _ _ _ (fun e => hn (by rw [e]))⟩
theorem grown_drewN (w : World) (n : Nat) (row : Option Nat) : w.grownBy (w.drewN n) row := ⟨rfl, rfl, rfl, Nat.le_refl _, fun _ _ _ => rfl⟩
theorem grown_drew (w : World) (row : Option Nat) : w.grownBy w.drew row := ⟨rfl, rfl, rfl, Nat.le_refl _, fun _ _ _ => rfl⟩
theorem grown_trans {a b c : World} {row : Option Nat} (h : a.grownBy b row) (k : b.grownBy c row) : a.grownBy c row :=
  ⟨k.os.trans h.os, k.tape.trans h.tape, k.output.trans h.output, Nat.le_trans h.size k.size, fun i hi hn => (k.block i (Nat.lt_of_lt_of_le hi h.size) hn).trans (h.block i hi hn)⟩
theorem grown_set {a w : World} {b o : Nat} {u : Value} (h : a.grownBy w (some b)) : a.grownBy (w.setCell ⟨b, o, none⟩ u) (some b) := grown_trans h (grown_setCell w ⟨b, o, none⟩ u)
theorem grown_dN {a w : World} {row : Option Nat} {n : Nat} (h : a.grownBy w row) : a.grownBy (w.drewN n) row := grown_trans h (grown_drewN w n row)
theorem grown_d {a w : World} {row : Option Nat} (h : a.grownBy w row) : a.grownBy w.drew row := grown_trans h (grown_drew w row)

/-- THE DECODER IN MEMORY: block b holds its five fields. -/
structure Dec (w : World) (b : Nat) (v : Value) (at_ rng code : Int) (ov : Bool) : Prop where
  c0 : w.cell? ⟨b, 0, none⟩ = some v
  c1 : w.cell? ⟨b, 1, none⟩ = some (.int .i64 at_)
  c2 : w.cell? ⟨b, 2, none⟩ = some (.int .u32 rng)
  c3 : w.cell? ⟨b, 3, none⟩ = some (.int .u32 code)
  c4 : w.cell? ⟨b, 4, none⟩ = some (.bool ov)
  f1 : w.frozen? ⟨b, 1, none⟩ = false
  f2 : w.frozen? ⟨b, 2, none⟩ = false
  f3 : w.frozen? ⟨b, 3, none⟩ = false
  f4 : w.frozen? ⟨b, 4, none⟩ = false

theorem Dec.drewN {w : World} {b : Nat} {v : Value} {at_ rng code : Int} {ov : Bool} (D : Dec w b v at_ rng code ov) (n : Nat) : Dec (w.drewN n) b v at_ rng code ov := ⟨D.c0, D.c1, D.c2, D.c3, D.c4, D.f1, D.f2, D.f3, D.f4⟩
theorem Dec.drew {w : World} {b : Nat} {v : Value} {at_ rng code : Int} {ov : Bool} (D : Dec w b v at_ rng code ov) : Dec w.drew b v at_ rng code ov := ⟨D.c0, D.c1, D.c2, D.c3, D.c4, D.f1, D.f2, D.f3, D.f4⟩
theorem oth (w : World) (b i j : Nat) (x : Value) (h : i ≠ j) : (w.setCell ⟨b, i, none⟩ x).cell? ⟨b, j, none⟩ = w.cell? ⟨b, j, none⟩ := World.cell?_setCell_other _ _ _ _ (fun e => h (congrArg Addr.off e))
theorem Dec.set1 {w : World} {b : Nat} {v : Value} {at_ rng code : Int} {ov : Bool} (D : Dec w b v at_ rng code ov) (x : Int) : Dec (w.setCell ⟨b, 1, none⟩ (.int .i64 x)) b v x rng code ov := by
  refine ⟨(oth _ _ _ _ _ (by decide)).trans D.c0, World.cell?_setCell_same _ _ _ D.c1, (oth _ _ _ _ _ (by decide)).trans D.c2, (oth _ _ _ _ _ (by decide)).trans D.c3, (oth _ _ _ _ _ (by decide)).trans D.c4, ?_, ?_, ?_, ?_⟩ <;> rw [World.frozen?_setCell]
  · exact D.f1
  · exact D.f2
  · exact D.f3
  · exact D.f4
theorem Dec.set2 {w : World} {b : Nat} {v : Value} {at_ rng code : Int} {ov : Bool} (D : Dec w b v at_ rng code ov) (x : Int) : Dec (w.setCell ⟨b, 2, none⟩ (.int .u32 x)) b v at_ x code ov := by
  refine ⟨(oth _ _ _ _ _ (by decide)).trans D.c0, (oth _ _ _ _ _ (by decide)).trans D.c1, World.cell?_setCell_same _ _ _ D.c2, (oth _ _ _ _ _ (by decide)).trans D.c3, (oth _ _ _ _ _ (by decide)).trans D.c4, ?_, ?_, ?_, ?_⟩ <;> rw [World.frozen?_setCell]
  · exact D.f1
  · exact D.f2
  · exact D.f3
  · exact D.f4
theorem Dec.set3 {w : World} {b : Nat} {v : Value} {at_ rng code : Int} {ov : Bool} (D : Dec w b v at_ rng code ov) (x : Int) : Dec (w.setCell ⟨b, 3, none⟩ (.int .u32 x)) b v at_ rng x ov := by
  refine ⟨(oth _ _ _ _ _ (by decide)).trans D.c0, (oth _ _ _ _ _ (by decide)).trans D.c1, (oth _ _ _ _ _ (by decide)).trans D.c2, World.cell?_setCell_same _ _ _ D.c3, (oth _ _ _ _ _ (by decide)).trans D.c4, ?_, ?_, ?_, ?_⟩ <;> rw [World.frozen?_setCell]
  · exact D.f1
  · exact D.f2
  · exact D.f3
  · exact D.f4
theorem Dec.set4 {w : World} {b : Nat} {v : Value} {at_ rng code : Int} {ov : Bool} (D : Dec w b v at_ rng code ov) (x : Bool) : Dec (w.setCell ⟨b, 4, none⟩ (.bool x)) b v at_ rng code x := by
  refine ⟨(oth _ _ _ _ _ (by decide)).trans D.c0, (oth _ _ _ _ _ (by decide)).trans D.c1, (oth _ _ _ _ _ (by decide)).trans D.c2, (oth _ _ _ _ _ (by decide)).trans D.c3, World.cell?_setCell_same _ _ _ D.c4, ?_, ?_, ?_, ?_⟩ <;> rw [World.frozen?_setCell]
  · exact D.f1
  · exact D.f2
  · exact D.f3
  · exact D.f4
theorem Dec.lt {w : World} {b : Nat} {v : Value} {at_ rng code : Int} {ov : Bool} (D : Dec w b v at_ rng code ov) : b < w.heap.size := World.block_lt_of_cell? w _ D.c0
theorem Dec.kept {w w' : World} {b : Nat} {v : Value} {at_ rng code : Int} {ov : Bool} {row : Option Nat} (D : Dec w b v at_ rng code ov) (g : w.grownBy w' row) (h : some b ≠ row) : Dec w' b v at_ rng code ov := by
  have hb := g.block b D.lt h
  have hc : ∀ i, w'.cell? ⟨b, i, none⟩ = w.cell? ⟨b, i, none⟩ := fun i => World.cell?_of_block hb
  have hf : ∀ i, w'.frozen? ⟨b, i, none⟩ = w.frozen? ⟨b, i, none⟩ := fun i => World.frozen?_of_block hb
  exact ⟨(hc 0).trans D.c0, (hc 1).trans D.c1, (hc 2).trans D.c2, (hc 3).trans D.c3, (hc 4).trans D.c4, (hf 1).trans D.f1, (hf 2).trans D.f2, (hf 3).trans D.f3, (hf 4).trans D.f4⟩

set_option maxHeartbeats 400000 in
theorem norm_hi (w : World) (b : Nat) (v : Value) (at_ rng code : Int) (ov : Bool) (D : Dec w b v at_ rng code ov) (h : 16777216 ≤ rng) :
    Calls Try.prog 25 #[.pointer (some ⟨b, 0, none⟩)] w fun e w' => e = .returned (.tuple #[]) ∧ Dec w' b v at_ rng code ov ∧ w.grownBy w' (some b) := by
  have c2 := D.c2
  go_enter Try.func25, Try.ntmps25
  go_wp2
  refine bodyPost_ret (results_none rfl _ _ _) rfl ?_
  exact ⟨rfl, D, World.grownBy.refl _ _⟩

set_option maxHeartbeats 400000 in
theorem norm_out (w : World) (b : Nat) (a : Option Addr) (len cap : Nat) (at_ rng code : Int) (ov : Bool) (D : Dec w b (.slice a len cap) at_ rng code ov) (h0 : 0 ≤ rng) (h : rng < 16777216) (hc0 : 0 ≤ code) (hc : code < 4294967296) (hat : (len : Int) ≤ at_) :
    Calls Try.prog 25 #[.pointer (some ⟨b, 0, none⟩)] w fun e w' => e = .returned (.tuple #[]) ∧ Dec w' b (.slice a len cap) at_ (rng * 256) (code * 256 % 4294967296) true ∧ w.grownBy w' (some b) := by
  have D' := D
  obtain ⟨c0, c1, c2, c3, c4, f1, f2, f3, f4⟩ := D
  go_enter Try.func25, Try.ntmps25
  go_wp2
  go_quiet (fail)
  go_wp2
  go_end0
  exact ⟨rfl, (((D'.set2 _).set3 _).drewN _).set4 _, grown_set (grown_dN (grown_set (grown_set (World.grownBy.refl _ _))))⟩

theorem wraps_u32 (n : Int) (h₀ : 0 ≤ n) (h₁ : n < 2 ^ 32) : IntKind.u32.wrap n = n := by rw [IntKind.wrap_u32]; omega
theorem or_byte (x y : Int) (h0 : 0 ≤ x) (h1 : x < 4294967296) (hx : x % 256 = 0) (hy : 0 ≤ y) (hy1 : y ≤ 255) : bits .or .u32 x y = x + y :=
  bits_join .u32 32 (by decide) wraps_u32 8 x y h0 (by omega) (by omega) hy (by omega) (by omega)

set_option maxHeartbeats 400000 in
theorem norm_in (w : World) (b : Nat) (ab ao : Nat) (len cap : Nat) (at_ : Nat) (rng code x : Int) (ov : Bool) (D : Dec w b (.slice (some ⟨ab, ao, none⟩) len cap) at_ rng code ov) (h0 : 0 ≤ rng) (h : rng < 16777216) (hc0 : 0 ≤ code) (hc : code < 4294967296) (hat : at_ < len) (hlen : len ≤ 1048576)
    (hx : w.cell? ⟨ab, ao + at_, none⟩ = some (.int .u8 x)) (hne : ab ≠ b) (hx0 : 0 ≤ x) (hx1 : x ≤ 255) :
    Calls Try.prog 25 #[.pointer (some ⟨b, 0, none⟩)] w fun e w' => e = .returned (.tuple #[]) ∧ Dec w' b (.slice (some ⟨ab, ao, none⟩) len cap) (at_ + 1 : Nat) (rng * 256) (code * 256 % 4294967296 + x) ov ∧ w.grownBy w' (some b) := by
  have D' := D
  obtain ⟨c0, c1, c2, c3, c4, f1, f2, f3, f4⟩ := D
  have ho := or_byte (code * 256 % 4294967296) x (by omega) (by omega) (by omega) hx0 hx1
  go_enter Try.func25, Try.ntmps25
  go_wp2
  go_quiet (fail)
  go_wp2
  go_region
  go_wp2
  go_end0
  refine ⟨rfl, ?_, grown_set (grown_set (grown_dN (grown_set (grown_set (World.grownBy.refl _ _)))))⟩
  exact ((((D'.set2 (rng * 256)).set3 (code * 256 % 4294967296)).drewN (nq + 1)).set3 (code * 256 % 4294967296 + x)).set1 (at_ + 1)

/-! ### bit, OVER WHATEVER normalize LEAVES -/
/-- What a call of normalize at the decoder in block b leaves. -/
def Norm (w : World) (b : Nat) (v : Value) (at_ rng code : Int) (ov : Bool) : Prop :=
  Calls Try.prog 25 #[.pointer (some ⟨b, 0, none⟩)] w fun e w' => e = .returned (.tuple #[]) ∧ Dec w' b v at_ rng code ov ∧ w.grownBy w' (some b)
theorem Norm.out {w : World} {b : Nat} {v : Value} {at_ rng code : Int} {ov : Bool} (h : Norm w b v at_ rng code ov) :
  Calls Try.prog 25 #[.pointer (some ⟨b, 0, none⟩)] w fun e w' => e = .returned (.tuple #[]) ∧ Dec w' b v at_ rng code ov ∧ w.grownBy w' (some b) := h

set_option maxHeartbeats 400000 in
theorem bit_lo (w : World) (b q : Nat) (v : Value) (at_ rng code p : Int) (ov : Bool) (H : Norm w b v at_ rng code ov)
    (hq : w.cell? ⟨q, 0, none⟩ = some (.int .u16 p)) (fq : w.frozen? ⟨q, 0, none⟩ = false) (hqb : q ≠ b) (h0 : 0 ≤ rng) (h1 : rng < 4294967296) (hp0 : 0 ≤ p) (hp1 : p ≤ 2048)
    (hb : rng / 2048 * p < 4294967296) (hlt : code < rng / 2048 * p) :
    Calls Try.prog 20 #[.pointer (some ⟨b, 0, none⟩), .pointer (some ⟨q, 0, none⟩)] w fun e w' => e = .returned (.int .u32 0) ∧
      ∃ w1, w.grownBy w1 (some b) ∧ w1.grownBy w' (some q) ∧ Dec w' b v at_ (rng / 2048 * p) code ov ∧ w'.cell? ⟨q, 0, none⟩ = some (.int .u16 (p + (2048 - p) / 32)) := by
  have hb0 : 0 ≤ rng / 2048 * p := Int.mul_nonneg (by omega) hp0
  go_enter Try.func20, Try.ntmps20
  go_wp2_with fail
  refine H.out.mono ?_
  rintro e w1 ⟨rfl, D1, g1⟩
  have hq1 := g1.cell hq (by simp; omega)
  have fq1 := (World.frozen?_of_block (a := ⟨q, 0, none⟩) (g1.block q (World.block_lt_of_cell? w _ hq) (by simp; omega))).trans fq
  have D2 := D1
  obtain ⟨c0, c1, c2, c3, c4, f1, f2, f3, f4⟩ := D1
  go_wp2
  go_quiet (fail)
  go_wp2
  go_region
  go_wp2
  go_ret
  refine ⟨rfl, (w1.drewN nq).setCell ⟨b, 2, none⟩ (.int .u32 (rng / 2048 * p)), ?g1, ?g2, ?D, ?c⟩
  case g2 => exact grown_d (grown_setCell _ ⟨q, 0, none⟩ _)
  case g1 => exact grown_set (grown_dN g1)
  case D => exact Dec.kept ((D2.drewN _).set2 _) (grown_d (grown_setCell _ ⟨q, 0, none⟩ _)) (fun e => hqb (Option.some.inj e).symm)
  case c => go_simp

set_option maxHeartbeats 400000 in
theorem bit_hi (w : World) (b q : Nat) (v : Value) (at_ rng code p : Int) (ov : Bool) (H : Norm w b v at_ rng code ov)
    (hq : w.cell? ⟨q, 0, none⟩ = some (.int .u16 p)) (fq : w.frozen? ⟨q, 0, none⟩ = false) (hqb : q ≠ b) (h0 : 0 ≤ rng) (h1 : rng < 4294967296) (hp0 : 0 ≤ p) (hp1 : p ≤ 2048)
    (hb : rng / 2048 * p ≤ rng) (hlt : rng / 2048 * p ≤ code) (hc : code < 4294967296) :
    Calls Try.prog 20 #[.pointer (some ⟨b, 0, none⟩), .pointer (some ⟨q, 0, none⟩)] w fun e w' => e = .returned (.int .u32 1) ∧
      ∃ w1, w.grownBy w1 (some b) ∧ w1.grownBy w' (some q) ∧ Dec w' b v at_ (rng - rng / 2048 * p) (code - rng / 2048 * p) ov ∧ w'.cell? ⟨q, 0, none⟩ = some (.int .u16 (p - p / 32)) := by
  have hb0 : 0 ≤ rng / 2048 * p := Int.mul_nonneg (by omega) hp0
  go_enter Try.func20, Try.ntmps20
  go_wp2_with fail
  refine H.out.mono ?_
  rintro e w1 ⟨rfl, D1, g1⟩
  have hq1 := g1.cell hq (by simp; omega)
  have fq1 := (World.frozen?_of_block (a := ⟨q, 0, none⟩) (g1.block q (World.block_lt_of_cell? w _ hq) (by simp; omega))).trans fq
  have D2 := D1
  obtain ⟨c0, c1, c2, c3, c4, f1, f2, f3, f4⟩ := D1
  go_wp2
  go_quiet (fail)
  go_wp2
  go_region
  go_wp2
  go_ret
  refine ⟨rfl, ((w1.drewN nq).setCell ⟨b, 2, none⟩ (.int .u32 (rng - rng / 2048 * p))).setCell ⟨b, 3, none⟩ (.int .u32 (code - rng / 2048 * p)), ?g1, ?g2, ?D, ?c⟩
  case g2 => exact grown_d (grown_setCell _ ⟨q, 0, none⟩ _)
  case g1 => exact grown_set (grown_set (grown_dN g1))
  case D => exact Dec.kept (((D2.drewN _).set2 _).set3 _) (grown_d (grown_setCell _ ⟨q, 0, none⟩ _)) (fun e => hqb (Option.some.inj e).symm)
  case c => go_simp

set_option maxHeartbeats 400000 in
theorem newDec (w : World) (v : Value) (at_ rng code : Int) (ov : Bool) (a : Option Addr) (len cap : Nat) (hv : v = .slice a len cap) :
    Calls Try.prog 9 #[v, .int .i64 at_, .int .u32 rng, .int .u32 code, .bool ov] w fun e w' => e = .returned (.pointer (some ⟨w.heap.size, 0, none⟩)) ∧ Dec w' w.heap.size v at_ rng code ov ∧ w.grownBy w' none ∧ w'.heap.size = w.heap.size + 1 := by
  subst hv
  go_enter Try.func9, Try.ntmps9
  go_wp2
  go_ret
  refine ⟨rfl, ⟨?_, ?_, ?_, ?_, ?_, ?_, ?_, ?_, ?_⟩, World.grownBy_alloc _ _ _, by simp⟩ <;> go_simp

set_option maxHeartbeats 400000 in
theorem decState (w : World) (b : Nat) (v : Value) (at_ rng code : Int) (ov : Bool) (D : Dec w b v at_ rng code ov) :
    Calls Try.prog 12 #[.pointer (some ⟨b, 0, none⟩)] w fun e w' => e = .returned (.tuple #[.int .i64 at_, .int .u32 rng, .int .u32 code, .bool ov]) ∧ ∃ n, w' = w.drewN n := by
  obtain ⟨c0, c1, c2, c3, c4, f1, f2, f3, f4⟩ := D
  go_enter Try.func12, Try.ntmps12
  go_wp2
  go_quiet (fail)
  go_wp2
  exact bodyPost_ret (v := .tuple #[.int .i64 at_, .int .u32 rng, .int .u32 code, .bool ov]) (by simp [results, Try.results12, go_sem]) rfl ⟨rfl, _, rfl⟩

theorem grown_then {a b c : World} {row row' : Option Nat} (h : a.grownBy b row) (k : b.grownBy c row') (hr : ∀ j, row' = some j → a.heap.size ≤ j ∨ row = some j) : a.grownBy c row := by
  refine ⟨k.os.trans h.os, k.tape.trans h.tape, k.output.trans h.output, Nat.le_trans h.size k.size, fun i hi hn => (k.block i (Nat.lt_of_lt_of_le hi h.size) (fun e => ?_)).trans (h.block i hi hn)⟩
  rcases hr i e.symm with h' | h'
  · omega
  · exact hn h'.symm

end Go.Proofs.Qxb6619462a
