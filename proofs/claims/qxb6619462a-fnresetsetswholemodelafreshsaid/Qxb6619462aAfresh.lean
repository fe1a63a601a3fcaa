import Derived.Test.Qxb6619462aReset
import Derived.Test.Qxb6619462aNew
import Derived.Test.Qxb6619462aFields
namespace Go.Proofs.Qxb6619462a.Reset
open Go.RowKit
set_option linter.unusedVariables false

theorem zzreset_any (w : World) (B : Nat) (c : Nat → Int) (I : Img w B 78 c) :
    Calls Try.prog 15 #[.pointer (some ⟨B, 0, none⟩)] w fun e w' => e = .returned (.tuple #[]) ∧ RS w B c (fun c' => Done c' 9 14144) w' := by
  go_enter Try.func15, Try.ntmps15
  go_wp2_with fail
  refine (reset_any w B c I).mono ?_
  rintro e w' ⟨rfl, h⟩
  go_wp2
  go_end0
  exact ⟨rfl, h⟩

theorem info47 : (Try.prog.info? 47).map (·.size) = some 14144 := by kernel_rfl

set_option maxRecDepth 20000 in
set_option maxHeartbeats 4000000 in
theorem afresh_any (w : World) (cs : Array Value) (c : Nat → Int) (hA : Agg cs c) :
    Calls Try.prog 5 #[.agg cs] w fun e w' => e = .returned (.bool true) ∧ Below w.heap.size w w' := by
  obtain ⟨z, hz, hZ⟩ := zero47
  have I0 := hA.img w 47
  have g0 := World.grownBy_alloc w (.cells cs 47) none
  have hg0 := heap_alloc_new w (.cells cs 47)
  have hs0 : cs.size = 14144 := hA.1
  have HA : Hid (Agg cs c) := hA
  have HZ : Hid (z.size = 14144 ∧ ∀ i, i < 14144 → z[i]? = some (cv i 0)) := hZ
  have HS0 : Hid (cs.size = 14144) := hs0
  clear hA hZ hs0
  go_enter Try.func5, Try.ntmps5
  go_upto_region 1 with fail
  obtain ⟨M, hM⟩ : ∃ M, w.heap.size = M := ⟨_, rfl⟩
  have HM : Hid (w.heap.size = M) := hM
  rw [hM] at I0 hg0 ⊢
  clear hM
  generalize w.alloc (.cells cs 47) = w1 at I0 g0 hg0 ⊢
  refine wp_region_lit ?_
  refine wpList_load_row rfl 47 _ rfl M rfl 47 cs (0, 0) _ hg0 Try.underlying47 rfl (by rw [HS0.out]; exact info47) ?_
  go_wp2_with fail
  refine (new_any w1 cs c HA.out).mono ?_
  rintro e w2 ⟨B, rfl, gN, hB1, hSB, J2, c2, I2, hh2⟩
  have hMB : M ≠ B := by have := I0.lt; omega
  have I0' := I0.kept gN (by simp)
  have HH2 : Hid (∀ j, j < 3 → c2 j = c j) := hh2
  clear hh2 J2 hg0
  go_wp2_with fail
  refine (zzreset_any w2 B c2 I2).mono ?_
  rintro e w3 ⟨rfl, gR, d, I3, hd3, D3⟩
  have HHD : Hid (Hd c2 d) := hd3
  have HD3 : Hid (Done d 9 14144) := D3
  clear hd3 D3
  have I0'' := I0'.kept gR (fun e => hMB (Option.some.inj e))
  go_wp2_with fail
  refine (fields_any w3 B d I3 HD3.out).mono ?_
  rintro e w4 ⟨gF, cs4, c4, rfl, hA4, hh4, D4⟩
  have I4 := I0''.kept gF (by simp)
  have HA4 : Hid (Agg cs4 c4) := hA4
  have HH4 : Hid (∀ j, j < 9 → c4 j = d j) := hh4
  have HD4 : Hid (Done c4 9 14144) := D4
  clear hA4 hh4 D4
  go_upto_region 4 with (refine wpList_store_row rfl 47 _ _ rfl w4.heap.size cs4 rfl rfl 47 z (heap_alloc_new w4 _) (by rw [HA4.out.1]; exact info47) (by rw [HZ.out.1, HA4.out.1]) HA4.out.one ?_)
  have gA := World.grownBy_alloc w4 (.cells z 47) none
  have gS := setRow_grown (w4.alloc (.cells z 47)) w4.heap.size cs4
  have I5 : Img ((w4.alloc (.cells z 47)).setRow w4.heap.size cs4) w4.heap.size 47 c4 := ⟨cs4, setRow_heap _ _ z cs4 47 (0, 0) (heap_alloc_new w4 _), HA4.out.1, HA4.out.2⟩
  have IM : Img ((w4.alloc (.cells z 47)).setRow w4.heap.size cs4) M 47 c := (I4.kept gA (by simp)).kept gS (fun e => absurd (Option.some.inj e) (by have := I4.lt; omega))
  have bel : Below w.heap.size w ((w4.alloc (.cells z 47)).setRow w4.heap.size cs4) := by
    have h0 := HM.out
    have b1 : Below w.heap.size w w1 := (Below.refl _ _).grown g0 (Nat.le_refl _) (by simp)
    have s1 := b1.size
    have b2 := b1.grown gN s1 (by simp)
    have s2 := b2.size
    have b3 := b2.grown gR s2 (fun k hk => by have := Option.some.inj hk; omega)
    have s3 := b3.size
    have b4 := b3.grown gF s3 (by simp)
    have s4 := b4.size
    have b5 := b4.grown gA s4 (by simp)
    exact b5.grown gS b5.size (fun k hk => by have := Option.some.inj hk; omega)
  have HBel : Hid (Below w.heap.size w ((w4.alloc (.cells z 47)).setRow w4.heap.size cs4)) := bel
  clear bel gA gS I4 gF gR gN g0 I0 I0' I0'' I2 I3 hMB hSB hB1 hz HZ
  obtain ⟨G, hG⟩ : ∃ G, w4.heap.size = G := ⟨_, rfl⟩
  rw [hG] at I5 IM HBel ⊢
  generalize (w4.alloc (.cells z 47)).setRow G cs4 = w5 at I5 IM HBel ⊢
  clear hG
  have e0 : c4 0 = c 0 := by rw [HH4.out 0 (by omega), HHD.out.1 0 (by omega), HH2.out 0 (by omega)]
  have e1 : c4 1 = c 1 := by rw [HH4.out 1 (by omega), HHD.out.1 1 (by omega), HH2.out 1 (by omega)]
  have e2 : c4 2 = c 2 := by rw [HH4.out 2 (by omega), HHD.out.1 2 (by omega), HH2.out 2 (by omega)]
  have m0 := IM.cellH 0 (by omega)
  have m1 := IM.cellH 1 (by omega)
  have m2 := IM.cellH 2 (by omega)
  have n0 := I5.cellH 0 (by omega)
  have n1 := I5.cellH 1 (by omega)
  have n2 := I5.cellH 2 (by omega)
  rw [e0] at n0
  rw [e1] at n1
  rw [e2] at n2
  have n3 := I5.cellH 3 (by omega)
  rw [HH4.out 3 (by omega), HHD.out.2 3 (by omega) (by omega)] at n3
  have n8 := I5.cellH 8 (by omega)
  rw [HH4.out 8 (by omega), HHD.out.2 8 (by omega) (by omega)] at n8
  have p0 := I5.cellU 828 (by omega) (by omega)
  rw [HD4.out 828 (by omega) (by omega)] at p0
  have p1 := I5.cellU 829 (by omega) (by omega)
  rw [HD4.out 829 (by omega) (by omega)] at p1
  have p2 := I5.cellU 1342 (by omega) (by omega)
  rw [HD4.out 1342 (by omega) (by omega)] at p2
  have p3 := I5.cellU 1343 (by omega) (by omega)
  rw [HD4.out 1343 (by omega) (by omega)] at p3
  have HR : Hid (∀ k, k < 4 → w5.cell? ⟨G, 4 + k, none⟩ = some (.int .i64 0)) := fun k hk => by
    rw [I5.cellH (4 + k) (by omega), HH4.out (4 + k) (by omega), HHD.out.2 (4 + k) (by omega) (by omega)]
  clear e0 e1 e2 HHD HH2 HH4 IM
  go_wp2_with fail
  go_loop [5] (fun i => ∃ k : Nat, k ≤ 4 ∧ i = .int .i64 k) (fun i => 4 - (intOf i).toNat)
  case atStart => exact ⟨0, Nat.zero_le _, rfl⟩
  case round =>
    obtain ⟨k, hk, rfl⟩ := hrel
    by_cases hlt : k < 4
    · have hc := HR.out k hlt
      go_wp2
      go_round
      case rel => first | exact ⟨k + 1, by omega, by go_num⟩ | ((repeat apply Exists.intro); refine ⟨?_, rfl⟩; exact ⟨k + 1, by omega, by go_num⟩)
      case measure => simp [intOf]; omega
    · go_wp2_with fail
      go_loop [6] (fun i => ∃ k : Nat, k ≤ 12 ∧ i = .int .i64 k) (fun i => 12 - (intOf i).toNat)
      case atStart => exact ⟨0, Nat.zero_le _, rfl⟩
      case round =>
        obtain ⟨k, hk, rfl⟩ := hrel
        by_cases hlt : k < 12
        · go_wp2_with (go_at_call 17; refine (allHalf_any _ G 47 c4 _ _ _ I5 (by omega) (by omega) (fun j h1 h2 => HD4.out j (by omega) (by omega))).mono ?_; rintro e w' ⟨rfl, rfl⟩)
          go_round
          case rel => first | exact ⟨k + 1, by omega, by go_num⟩ | ((repeat apply Exists.intro); refine ⟨?_, rfl⟩; exact ⟨k + 1, by omega, by go_num⟩)
          case measure => simp [intOf]; omega
        · go_wp2_with fail
          go_loop [7] (fun i => ∃ k : Nat, k ≤ 4 ∧ i = .int .i64 k) (fun i => 4 - (intOf i).toNat)
          case atStart => exact ⟨0, Nat.zero_le _, rfl⟩
          case round =>
            obtain ⟨k, hk, rfl⟩ := hrel
            by_cases hlt : k < 4
            · go_wp2_with (go_at_call 17; refine (allHalf_any _ G 47 c4 _ _ _ I5 (by omega) (by omega) (fun j h1 h2 => HD4.out j (by omega) (by omega))).mono ?_; rintro e w' ⟨rfl, rfl⟩)
              go_round
              case rel => first | exact ⟨k + 1, by omega, by go_num⟩ | ((repeat apply Exists.intro); refine ⟨?_, rfl⟩; exact ⟨k + 1, by omega, by go_num⟩)
              case measure => simp [intOf]; omega
            · go_wp2_with fail
              go_loop [8] (fun i => ∃ k : Nat, k ≤ 16 ∧ i = .int .i64 k) (fun i => 16 - (intOf i).toNat)
              case atStart => exact ⟨0, Nat.zero_le _, rfl⟩
              case round =>
                obtain ⟨k, hk, rfl⟩ := hrel
                by_cases hlt : k < 16
                · go_wp2_with (go_at_call 17; refine (allHalf_any _ G 47 c4 _ _ _ I5 (by omega) (by omega) (fun j h1 h2 => HD4.out j (by omega) (by omega))).mono ?_; rintro e w' ⟨rfl, rfl⟩)
                  go_round
                  case rel => first | exact ⟨k + 1, by omega, by go_num⟩ | ((repeat apply Exists.intro); refine ⟨?_, rfl⟩; exact ⟨k + 1, by omega, by go_num⟩)
                  case measure => simp [intOf]; omega
                · go_wp2_with (go_at_call 17; refine (allHalf_any _ G 47 c4 _ _ _ I5 (by omega) (by omega) (fun j h1 h2 => HD4.out j (by omega) (by omega))).mono ?_; rintro e w' ⟨rfl, rfl⟩)
                  go_ret
                  exact ⟨rfl, HBel.out⟩

end Go.Proofs.Qxb6619462a.Reset
