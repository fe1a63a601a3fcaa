import Derived.Test.Qxb6619462aRaw
namespace Go.Proofs.Qxb6619462a.Raw
open Go.RowKit
set_option linter.unusedVariables false

set_option maxRecDepth 20000 in
set_option maxHeartbeats 2000000 in
theorem raw_neg (a0 : Option Addr) (len cap0 : Nat) (f : Nat → Int) (A c k : Nat) (n : Int) (hn : n < 0) (r : Int) (ov : Bool) (w : World)
    (hl : len ≤ 1048576) (hf : ∀ j, 0 ≤ f j ∧ f j ≤ 255)
    (hcl : Calls Try.prog 8 #[.slice a0 len cap0] w fun e w' => ∃ a cap, e = .returned (.slice a len cap) ∧ Cloned w w' a len cap f)
    (hA : (A : Int) ≤ 9223372036854775807) (hk : k ≤ 31) (hr : r = ((2 ^ k : Nat) : Int)) (hc : (c : Int) < r) (hr1 : 1 ≤ r) (hr2 : r < 4294967296) (hand : bits .and .u32 r (r - 1) = 0)
    (HZ : Hid (∀ W b v, DecS W b v ⟨A, r, c, ov⟩ → Src W b v len f → Calls Try.prog 11 #[.pointer (some ⟨b, 0, none⟩), .int .i64 n] W fun e w' => e = .returned (.int .u32 (want (sb A len f k c) 0)) ∧ DecS w' b v (stAt A len f k c ov 0) ∧ W.grownBy w' (some b))) :
    Calls Try.prog 6 #[.slice a0 len cap0, .int .i64 A, .int .u32 r, .int .u32 c, .bool ov, .int .i64 n] w fun e w' => e = .returned (.bool true) ∧ Below w.heap.size w w' := by
  have HF : Hid (∀ j, 0 ≤ f j ∧ f j ≤ 255) := hf
  have HC : Hid (Calls Try.prog 8 #[.slice a0 len cap0] w fun e w' => ∃ a cap, e = .returned (.slice a len cap) ∧ Cloned w w' a len cap f) := hcl
  have HR : Hid (r = ((2 ^ k : Nat) : Int)) := hr
  clear hf hcl hr
  have hrb : (r == 0) = false := by simp; omega
  obtain ⟨U, T, hUT⟩ : ∃ U T, ut k 0 = (U, T) := ⟨_, _, rfl⟩
  have HUT : Hid (ut k 0 = (U, T)) := hUT
  obtain ⟨hU1, hU⟩ := ut_inv k hk 0
  rw [hUT] at hU1 hU
  simp only at hU1 hU
  obtain ⟨AT, hAT⟩ : ∃ AT : Int, AT = ((A + min T (len - A) : Nat) : Int) := ⟨_, rfl⟩
  obtain ⟨OV, hOV⟩ : ∃ OV, OV = (ov || decide (len - A < T)) := ⟨_, rfl⟩
  obtain ⟨RU, hRU⟩ : ∃ RU : Int, RU = ((2 ^ U : Nat) : Int) := ⟨_, rfl⟩
  obtain ⟨CU, hCU⟩ : ∃ CU : Nat, CU = val (sb A len f k c) 0 U := ⟨_, rfl⟩
  have eST : stAt A len f k c ov 0 = ⟨AT, RU, CU, OV⟩ := by unfold stAt; rw [hUT, hAT, hOV, hRU, hCU]
  have hfin : (RU == (2 : Int) ^ U % 4294967296) = true := by rw [hRU, (pow32 U hU).1]; simp
  have HAT : Hid (AT = ((A + min T (len - A) : Nat) : Int)) := hAT
  have HOV : Hid (OV = (ov || decide (len - A < T))) := hOV
  have HCU : Hid (CU = val (sb A len f k c) 0 U) := hCU
  rw [eST] at HZ
  clear hUT hAT hOV hRU hCU eST
  go_enter Try.func6, Try.ntmps6
  go_wp2_with (first | (go_at_call 18; refine (zb18 _ _ _ _ _ _ _ _ _ hl).mono ?_; rintro e w' ⟨rfl, rfl⟩) | (go_at_call 8; refine Calls.mono HC.out ?_; rintro e w1 ⟨a, cap, rfl, C1⟩))
  go_loop [13] (fun i => ∃ j : Nat, j ≤ k ∧ i = .int .i64 j) (fun i => k - (intOf i).toNat)
  case atStart => exact ⟨0, Nat.zero_le _, rfl⟩
  case round =>
    obtain ⟨j, hj, rfl⟩ := hrel
    by_cases hlt : j < k
    · have hne : ((2 : Int) ^ j % 4294967296 != r) = true := by
        rw [(pow32 j (by omega)).1, HR.out]
        have := pow_ne j k hlt
        simp only [bne_iff_ne, ne_eq]
        omega
      go_wp2
      go_round
      case rel => exact ⟨j + 1, by omega, by go_num⟩
      case measure => simp [intOf]; omega
    · have e : k = j := by omega
      subst e
      have heq : ((2 : Int) ^ k % 4294967296 != r) = false := by
        rw [(pow32 k (by omega)).1, HR.out]
        simp
      go_wp2_with fail
      refine (newDec w1 _ A r c ov _ _ _ rfl).mono ?_
      rintro e w3 ⟨rfl, D1, g3, s3⟩
      have S3 := C1.src w1.heap.size (Nat.le_refl _) g3
      go_wp2_with fail
      refine (HZ.out w3 w1.heap.size _ D1 S3).mono ?_
      rintro e w4 ⟨rfl, D4, g4⟩
      have S4 := S3.kept g4 (.inr rfl)
      have D5 : Dec w4 w1.heap.size (.slice a len cap) AT RU CU OV := D4
      go_wp2_with fail
      refine (decState w4 _ _ _ _ _ _ D5).mono ?_
      rintro e w5 ⟨rfl, n5, rfl⟩
      have S5 := S4.kept (grown_drewN w4 n5 none) (.inl rfl)
      have hend : Hid (Below w.heap.size w (w4.drewN n5)) := by
        have b1 : Below w.heap.size w w1 := (Below.refl _ _).grown C1.1 (Nat.le_refl _) (by simp)
        have l1 := b1.size
        have b3 := b1.grown g3 l1 (by simp)
        have b4 := b3.grown g4 (by omega) (by simp; omega)
        exact ⟨b4.os, b4.tape, b4.output, b4.size, b4.block⟩
      clear S3 S4 D1 D4 D5 g3 g4 s3 C1 heq
      go_wp2_with fail
      go_loop [20, 21, 22, 23] (fun us ts x i => ∃ m u t : Nat, m ≤ 0 ∧ us = .int .i64 u ∧ ts = .int .i64 t ∧ x = .int .u32 (want (sb A len f k c) m) ∧ i = .int .i64 m ∧ Hid (ut k m = (u, t))) (fun _ _ _ i => 0 - (intOf i).toNat)
      case atStart => exact ⟨0, k, 0, Nat.zero_le _, rfl, rfl, rfl, rfl, rfl⟩
      case round =>
            obtain ⟨i, u, t, hi, rfl, rfl, rfl, rfl, eI⟩ := hrel
            by_cases hlt : (i : Int) < n
            · omega
            · have e : i = 0 := by omega
              subst e
              have e2 : U = u ∧ T = t := by
                have := HUT.out.symm.trans eI.out
                simpa using this
              obtain ⟨rfl, rfl⟩ := e2
              clear eI
              go_wp2_with fail
              go_loop [25, 26] (fun x i => ∃ q V : Nat, 0 ≤ q ∧ q ≤ 0 + U ∧ x = .int .u32 V ∧ i = .int .i64 q ∧ Hid (V = val (sb A len f k c) 0 (q - 0))) (fun _ i => 0 + U - (intOf i).toNat)
              case atStart => exact ⟨0, 0, Nat.le_refl _, by omega, rfl, rfl, by show 0 = val _ _ _; rw [Nat.sub_self]; rfl⟩
              case round =>
                obtain ⟨q, V, hq1, hq2, rfl, rfl, eV⟩ := hrel
                by_cases hlt3 : q < 0 + U
                · have hV : V < 1073741824 := by
                    rw [eV.out]
                    have h1 := val_lt (sb_le A len f k c) 0 (q - 0)
                    have h2 : (2 : Nat) ^ (q - 0) ≤ 2 ^ 30 := Nat.pow_le_pow_right (by decide) (by omega)
                    omega
                  have sl := sb_le A len f k c q
                  have o1 := or_one ((V : Int) * 2) (sb A len f k c q : Int) (by omega) (by omega) (by omega) (by omega) (by omega)
                  have eV2 : Hid (V * 2 + sb A len f k c q = val (sb A len f k c) 0 (q + 1 - 0)) := by
                    show V * 2 + sb A len f k c q = _
                    rw [show q + 1 - 0 = (q - 0) + 1 by omega]
                    show _ = val (sb A len f k c) 0 (q - 0) * 2 + sb A len f k c (0 + (q - 0))
                    rw [← eV.out, show 0 + (q - 0) = q by omega]
                  go_wp2_with (go_at_call 19; refine (sb_any A c k q HF.out hk (by omega) hl (by omega) S5).mono ?_; rintro e w' ⟨rfl, rfl⟩)
                  go_round
                  case rel => exact ⟨q + 1, V * 2 + sb A len f k c q, by omega, by omega, by go_num, by go_num, eV2⟩
                  case measure => simp [intOf]; omega
                · have e3 : CU = V := by rw [HCU.out, eV.out, show q - 0 = U by omega]
                  subst e3
                  by_cases hAl : A < len
                  · by_cases hT : len - A < T
                    · have eAT : AT = (A : Int) + ((len : Int) - A) := by rw [HAT.out]; omega
                      have eOV : OV = true := by rw [HOV.out]; simp [hT]
                      subst eAT eOV
                      go_wp2
                      go_ret
                      exact ⟨rfl, hend.out⟩
                    · have eAT : AT = (A : Int) + T := by rw [HAT.out]; omega
                      have eOV : OV = ov := by rw [HOV.out]; simp [hT]
                      subst eAT eOV
                      go_wp2
                      go_ret
                      exact ⟨rfl, hend.out⟩
                  · by_cases hT : len - A < T
                    · have eAT : AT = (A : Int) := by rw [HAT.out]; omega
                      have eOV : OV = true := by rw [HOV.out]; simp [hT]
                      subst eAT eOV
                      go_wp2
                      go_ret
                      exact ⟨rfl, hend.out⟩
                    · have eAT : AT = (A : Int) + T := by rw [HAT.out]; omega
                      have eOV : OV = ov := by rw [HOV.out]; simp [hT]
                      subst eAT eOV
                      go_wp2
                      go_ret
                      exact ⟨rfl, hend.out⟩


theorem raw_main (a0 : Option Addr) (len cap0 : Nat) (f : Nat → Int) (A c k : Nat) (r : Int) (ov : Bool) (n : Int) (w : World)
    (hl : len ≤ 1048576) (hf : ∀ j, 0 ≤ f j ∧ f j ≤ 255)
    (hcl : Calls Try.prog 8 #[.slice a0 len cap0] w fun e w' => ∃ a cap, e = .returned (.slice a len cap) ∧ Cloned w w' a len cap f)
    (hA : (A : Int) ≤ 9223372036854775807) (hn : n ≤ 65536) (hk : k ≤ 31) (hr : r = ((2 ^ k : Nat) : Int)) (hc : (c : Int) < r) (hr1 : 1 ≤ r) (hr2 : r < 4294967296) (hand : bits .and .u32 r (r - 1) = 0) :
    Calls Try.prog 6 #[.slice a0 len cap0, .int .i64 A, .int .u32 r, .int .u32 c, .bool ov, .int .i64 n] w fun e w' => e = .returned (.bool true) ∧ Below w.heap.size w w' := by
  have hcN : c < 2 ^ k := by omega
  have hZ : ∀ W b v, DecS W b v ⟨A, r, c, ov⟩ → Src W b v len f → Calls Try.prog 11 #[.pointer (some ⟨b, 0, none⟩), .int .i64 n] W fun e w' => e = .returned (.int .u32 (want (sb A len f k c) n.toNat)) ∧ DecS w' b v (stAt A len f k c ov n.toNat) ∧ W.grownBy w' (some b) := by
    intro W b v D S
    have h := zzdirect_any W b v len f ⟨A, r, c, ov⟩ n hf hl ⟨by show (0 : Int) ≤ A; omega, by show 0 ≤ r; omega, hr2, by show (0 : Int) ≤ c; omega, by show (c : Int) < 4294967296; omega⟩ D S hn
    obtain ⟨d1, d2⟩ := dir_st A len f hf k c hk hcN ov n.toNat
    rw [← hr] at d1 d2
    rw [d1, d2] at h
    exact h
  by_cases h0 : n < 0
  · have e : n.toNat = 0 := by omega
    rw [e] at hZ
    exact raw_neg a0 len cap0 f A c k n h0 r ov w hl hf hcl hA hk hr hc hr1 hr2 hand hZ
  · obtain ⟨N, rfl⟩ := Int.eq_ofNat_of_zero_le (Int.not_lt.1 h0)
    rw [Int.toNat_natCast] at hZ
    exact raw_pos a0 len cap0 f A c k N (by omega) r ov w hl hf hcl hA hk hr hc hr1 hr2 hand hZ

end Go.Proofs.Qxb6619462a.Raw
