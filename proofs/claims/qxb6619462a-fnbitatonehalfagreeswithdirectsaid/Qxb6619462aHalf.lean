import Derived.Test.Qxb6619462aDirect
namespace Go.Proofs.Qxb6619462a.HalfLaw
open Go.RowKit
set_option linter.unusedVariables false

theorem zb7 (a : Option Addr) (len cap : Nat) (a1 a2 a3 : Int) (a4 : Bool) (w : World) (hl : len ≤ 1048576) :
    Calls Try.prog 7 #[.slice a len cap, .int .i64 a1, .int .u32 a2, .int .u32 a3, .bool a4] w fun e w' => e = .returned (.bool true) ∧ w = w' := by
  go_enter Try.func7, Try.ntmps7
  go_wp2
  go_ret
  exact ⟨rfl, rfl⟩
theorem zb7_no (a : Option Addr) (len cap : Nat) (a1 a2 a3 : Int) (a4 : Bool) (w : World) (hl : ¬ len ≤ 1048576) :
    Calls Try.prog 7 #[.slice a len cap, .int .i64 a1, .int .u32 a2, .int .u32 a3, .bool a4] w fun e w' => e = .returned (.bool false) ∧ w = w' := by
  go_enter Try.func7, Try.ntmps7
  go_wp2
  go_ret
  exact ⟨rfl, rfl⟩

theorem zzbit_lo' (w : World) (b : Nat) (v : Value) (at_ rng code p B : Int) (ov : Bool) (D : Dec w b v at_ 0 0 ov ∨ b < w.heap.size) (H : Norm (w.alloc (.cells #[.int .u16 p] 61)) b v at_ rng code ov)
    (hB : rng / 2048 * p = B) (h0 : 0 ≤ rng) (h1 : rng < 4294967296) (hp0 : 0 ≤ p) (hp1 : p ≤ 2048) (hb : B ≤ rng) (hlt : code < B) :
    Calls Try.prog 10 #[.pointer (some ⟨b, 0, none⟩), .int .u16 p] w fun e w' => e = .returned (.tuple #[.int .u32 0, .int .u16 (p + (2048 - p) / 32)]) ∧
      w.grownBy w' (some b) ∧ Dec w' b v at_ B code ov := by
  subst hB
  refine zzbit_lo w b v at_ rng code p ov ?_ H h0 h1 hp0 hp1 (by omega) hlt
  rcases D with D | D
  · exact D.lt
  · exact D

theorem zzbit_hi' (w : World) (b : Nat) (v : Value) (at_ rng code p B : Int) (ov : Bool) (D : Dec w b v at_ 0 0 ov ∨ b < w.heap.size) (H : Norm (w.alloc (.cells #[.int .u16 p] 61)) b v at_ rng code ov)
    (hB : rng / 2048 * p = B) (h0 : 0 ≤ rng) (h1 : rng < 4294967296) (hp0 : 0 ≤ p) (hp1 : p ≤ 2048) (hb : B ≤ rng) (hlt : B ≤ code) (hc : code < 4294967296) :
    Calls Try.prog 10 #[.pointer (some ⟨b, 0, none⟩), .int .u16 p] w fun e w' => e = .returned (.tuple #[.int .u32 1, .int .u16 (p - p / 32)]) ∧
      w.grownBy w' (some b) ∧ Dec w' b v at_ (rng - B) (code - B) ov := by
  subst hB
  refine zzbit_hi w b v at_ rng code p ov ?_ H h0 h1 hp0 hp1 hb hlt hc
  rcases D with D | D
  · exact D.lt
  · exact D


/-- rng' IS EVEN and bit's bound at one half is direct's. -/
theorem half_bound (R : Int) (h : R % 2048 = 0) : R / 2048 * 1024 = R / 2 ∧ R - R / 2 = R / 2 := by omega
theorem normS_mult {len : Nat} {f : Nat → Int} {s : St} (h : s.rng % 2048 = 0) : (normS len f s).rng % 2048 = 0 := by
  unfold normS
  split
  · exact h
  · split <;> (simp only []; omega)

set_option maxRecDepth 20000 in
set_option maxHeartbeats 1000000 in
theorem half_main (a0 : Option Addr) (len cap0 : Nat) (f : Nat → Int) (at_ rng code : Int) (ov : Bool) (w : World)
    (hl : len ≤ 1048576) (hf : ∀ j, 0 ≤ f j ∧ f j ≤ 255)
    (hcl : Calls Try.prog 8 #[.slice a0 len cap0] w fun e w' => ∃ a cap, e = .returned (.slice a len cap) ∧ Cloned w w' a len cap f)
    (ha : 0 ≤ at_) (hr : rng % 2048 = 0) (hr0 : 0 ≤ rng) (hr1 : rng < 4294967296) (hc0 : 0 ≤ code) (hc1 : code < 4294967296) :
    Calls Try.prog 3 #[.slice a0 len cap0, .int .i64 at_, .int .u32 rng, .int .u32 code, .bool ov] w fun e w' => e = .returned (.bool true) ∧ Below w.heap.size w w' := by
  have HF : Hid (∀ j, 0 ≤ f j ∧ f j ≤ 255) := hf
  have HC : Hid (Calls Try.prog 8 #[.slice a0 len cap0] w fun e w' => ∃ a cap, e = .returned (.slice a len cap) ∧ Cloned w w' a len cap f) := hcl
  clear hf hcl
  have ok : St.ok ⟨at_, rng, code, ov⟩ := ⟨ha, hr0, hr1, hc0, hc1⟩
  have okn := normS_ok (len := len) HF.out ok
  have mul := normS_mult (len := len) (f := f) (s := ⟨at_, rng, code, ov⟩) hr
  have HD1 : Hid (dirS len f ⟨at_, rng, code, ov⟩ 1 = halfS (normS len f ⟨at_, rng, code, ov⟩)) := rfl
  have HV1 : Hid (dirV len f ⟨at_, rng, code, ov⟩ 1 = bitS (normS len f ⟨at_, rng, code, ov⟩)) := by show dirV len f _ 0 * 2 % 4294967296 + _ = _; simp [dirV]; rfl
  have HN : Hid (∀ W b v, DecS W b v ⟨at_, rng, code, ov⟩ → Src W b v len f → NormS W b v (normS len f ⟨at_, rng, code, ov⟩)) := fun W b v D S => norm_any HF.out hl ok D S
  have HZ : Hid (∀ W b v, DecS W b v ⟨at_, rng, code, ov⟩ → Src W b v len f → Calls Try.prog 11 #[.pointer (some ⟨b, 0, none⟩), .int .i64 1] W fun e w' => e = .returned (.int .u32 (dirV len f ⟨at_, rng, code, ov⟩ 1)) ∧ DecS w' b v (dirS len f ⟨at_, rng, code, ov⟩ 1) ∧ W.grownBy w' (some b)) := fun W b v D S => zzdirect_any W b v len f _ 1 HF.out hl ok D S (by omega)
  rw [HD1.out, HV1.out] at HZ
  clear HD1 HV1
  generalize normS len f ⟨at_, rng, code, ov⟩ = t at okn mul HN HZ
  obtain ⟨at', rng', code', ov'⟩ := t
  obtain ⟨o1, o2, o3, o4, o5⟩ := okn
  simp only at o1 o2 o3 o4 o5 mul
  obtain ⟨e1, e2⟩ := half_bound rng' mul
  have E1 : Hid (rng' / 2048 * 1024 = rng' / 2) := e1
  have E2 : Hid (rng' - rng' / 2 = rng' / 2) := e2
  clear e1 e2 mul
  by_cases hb : code' < rng' / 2
  · have HB : Hid (bitS ⟨at', rng', code', ov'⟩ = 0) := by show bitS _ = 0; unfold bitS; rw [if_neg (by show ¬ rng' / 2 ≤ code'; omega)]
    have HS : Hid (halfS ⟨at', rng', code', ov'⟩ = ⟨at', rng' / 2, code', ov'⟩) := by show halfS _ = _; unfold halfS; rw [if_neg (by show ¬ rng' / 2 ≤ code'; omega)]
    rw [HB.out, HS.out] at HZ
    clear HB HS
    go_enter Try.func3, Try.ntmps3
    go_wp2_with (first | (go_at_call 7; refine (zb7 _ _ _ _ _ _ _ _ hl).mono ?_; rintro e w' ⟨rfl, rfl⟩) | (go_at_call 8; refine Calls.mono HC.out ?_; rintro e w1 ⟨a, cap, rfl, C1⟩))
    refine (newDec w1 _ at_ rng code ov _ _ _ rfl).mono ?_
    rintro e w3 ⟨rfl, D1, g3, s3⟩
    go_wp2_with fail
    refine (newDec w3 _ at_ rng code ov _ _ _ rfl).mono ?_
    rintro e w4 ⟨rfl, D2, g4, s4⟩
    rw [s3] at D2 s4
    have n1 : NormS (w4.alloc (.cells #[.int .u16 1024] 61)) w1.heap.size _ ⟨at', rng', code', ov'⟩ := HN.out _ _ _ ((D1.kept g4 (by simp)).kept (World.grownBy_alloc _ _ none) (by simp)) (C1.src _ (Nat.le_refl _) (grown_trans (grown_trans g3 g4) (World.grownBy_alloc _ _ none)))
    go_wp2_with fail
    refine (zzbit_lo' w4 _ _ at' rng' code' 1024 (rng' / 2) ov' (.inr (by omega)) n1 E1.out o2 o3 (by omega) (by omega) (by omega) hb).mono ?_
    rintro e w5 ⟨rfl, g5, D1'⟩
    go_wp2_with fail
    refine (HZ.out w5 (w1.heap.size + 1) _ (D2.kept g5 (by simp)) (C1.src' g5 (grown_trans g3 g4))).mono ?_
    rintro e w6 ⟨rfl, D2', g6⟩
    go_wp2_with fail
    refine (decState w6 _ _ _ _ _ _ (D1'.kept g6 (by simp))).mono ?_
    rintro e w7 ⟨rfl, n7, rfl⟩
    go_wp2_with fail
    refine (decState _ _ _ _ _ _ _ (Dec.drewN D2' _)).mono ?_
    rintro e w8 ⟨rfl, n8, rfl⟩
    go_wp2
    go_ret
    refine ⟨rfl, ?_⟩
    have b1 : Below w.heap.size w w1 := (Below.refl _ _).grown C1.1 (Nat.le_refl _) (by simp)
    have l1 := b1.size
    have b3 := b1.grown g3 l1 (by simp)
    have b4 := b3.grown g4 (by omega) (by simp)
    have b5 := b4.grown g5 (by omega) (by simp; omega)
    have b6 := b5.grown g6 (by have := g5.size; omega) (by simp; omega)
    exact ⟨b6.os, b6.tape, b6.output, b6.size, b6.block⟩
  · have HB : Hid (bitS ⟨at', rng', code', ov'⟩ = 1) := by show bitS _ = 1; unfold bitS; rw [if_pos (by show rng' / 2 ≤ code'; omega)]
    have HS : Hid (halfS ⟨at', rng', code', ov'⟩ = ⟨at', rng' / 2, code' - rng' / 2, ov'⟩) := by show halfS _ = _; unfold halfS; rw [if_pos (by show rng' / 2 ≤ code'; omega)]
    rw [HB.out, HS.out] at HZ
    clear HB HS
    go_enter Try.func3, Try.ntmps3
    go_wp2_with (first | (go_at_call 7; refine (zb7 _ _ _ _ _ _ _ _ hl).mono ?_; rintro e w' ⟨rfl, rfl⟩) | (go_at_call 8; refine Calls.mono HC.out ?_; rintro e w1 ⟨a, cap, rfl, C1⟩))
    refine (newDec w1 _ at_ rng code ov _ _ _ rfl).mono ?_
    rintro e w3 ⟨rfl, D1, g3, s3⟩
    go_wp2_with fail
    refine (newDec w3 _ at_ rng code ov _ _ _ rfl).mono ?_
    rintro e w4 ⟨rfl, D2, g4, s4⟩
    rw [s3] at D2 s4
    have n1 : NormS (w4.alloc (.cells #[.int .u16 1024] 61)) w1.heap.size _ ⟨at', rng', code', ov'⟩ := HN.out _ _ _ ((D1.kept g4 (by simp)).kept (World.grownBy_alloc _ _ none) (by simp)) (C1.src _ (Nat.le_refl _) (grown_trans (grown_trans g3 g4) (World.grownBy_alloc _ _ none)))
    go_wp2_with fail
    refine (zzbit_hi' w4 _ _ at' rng' code' 1024 (rng' / 2) ov' (.inr (by omega)) n1 E1.out o2 o3 (by omega) (by omega) (by omega) (by omega) o5).mono ?_
    rintro e w5 ⟨rfl, g5, D1'⟩
    go_wp2_with fail
    refine (HZ.out w5 (w1.heap.size + 1) _ (D2.kept g5 (by simp)) (C1.src' g5 (grown_trans g3 g4))).mono ?_
    rintro e w6 ⟨rfl, D2', g6⟩
    go_wp2_with fail
    refine (decState w6 _ _ _ _ _ _ (D1'.kept g6 (by simp))).mono ?_
    rintro e w7 ⟨rfl, n7, rfl⟩
    go_wp2_with fail
    refine (decState _ _ _ _ _ _ _ (Dec.drewN D2' _)).mono ?_
    rintro e w8 ⟨rfl, n8, rfl⟩
    go_wp2
    go_ret
    refine ⟨rfl, ?_⟩
    have b1 : Below w.heap.size w w1 := (Below.refl _ _).grown C1.1 (Nat.le_refl _) (by simp)
    have l1 := b1.size
    have b3 := b1.grown g3 l1 (by simp)
    have b4 := b3.grown g4 (by omega) (by simp)
    have b5 := b4.grown g5 (by omega) (by simp; omega)
    have b6 := b5.grown g6 (by have := g5.size; omega) (by simp; omega)
    exact ⟨b6.os, b6.tape, b6.output, b6.size, b6.block⟩

end Go.Proofs.Qxb6619462a.HalfLaw
