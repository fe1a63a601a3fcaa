import Derived.Test.Qxb6619462aStream
namespace Go.Proofs.Qxb6619462a.Raw
open Go.RowKit
set_option linter.unusedVariables false

theorem ret_int {k : IntKind} {a b : Int} (h : a = b) : Ending.returned (.int k a) = .returned (.int k b) := by rw [h]
theorem and_one (x : Int) (h0 : 0 ≤ x) (h1 : x < 4294967296) : bits .and .u32 x 1 = x % 2 := by
  have := bits_mask .u32 32 (by decide) wraps_u32 1 (by decide) x h0 (by omega)
  simpa using this
theorem and_shr (c e : Nat) (hc : c < 4294967296) : bits .and .u32 ((c : Int) / 2 ^ e) 1 = ((c / 2 ^ e % 2 : Nat) : Int) := by
  have h : (c : Int) / 2 ^ e = ((c / 2 ^ e : Nat) : Int) := by push_cast; rfl
  have hle := Nat.div_le_self c (2 ^ e)
  rw [h]
  generalize c / 2 ^ e = q at hle
  rw [and_one _ (by omega) (by omega)]
  omega

set_option maxHeartbeats 400000 in
theorem sb_in (w : World) (a : Option Addr) (len cap : Nat) (A c k t : Nat) (hk : k ≤ 31) (hc : c < 4294967296) (h : t < k) :
    Calls Try.prog 19 #[.slice a len cap, .int .i64 A, .int .u32 c, .int .i64 k, .int .i64 t] w fun e w' => e = .returned (.int .u32 (c / 2 ^ (k - 1 - t) % 2 : Nat)) ∧ w = w' := by
  go_enter Try.func19, Try.ntmps19
  go_wp2
  go_ret
  exact ⟨ret_int (and_shr c (k - 1 - t) hc), rfl⟩

set_option maxHeartbeats 400000 in
theorem sb_zero (w : World) (a : Option Addr) (len cap : Nat) (A c k t : Nat) (hk : k ≤ 31) (ht : t ≤ 1000000) (hl : len ≤ 1048576) (h : k ≤ t) (h2 : len ≤ A ∨ (A < len ∧ len - A ≤ (t - k) / 8)) :
    Calls Try.prog 19 #[.slice a len cap, .int .i64 A, .int .u32 c, .int .i64 k, .int .i64 t] w fun e w' => e = .returned (.int .u32 0) ∧ w = w' := by
  rcases h2 with h2 | ⟨h2, h3⟩
  · go_enter Try.func19, Try.ntmps19
    go_wp2
    go_ret
    exact ⟨rfl, rfl⟩
  · go_enter Try.func19, Try.ntmps19
    go_wp2
    go_ret
    exact ⟨rfl, rfl⟩

set_option maxHeartbeats 400000 in
theorem sb_byte (w : World) (g : Nat) (len : Nat) (x : Nat) (A c k t : Nat) (hk : k ≤ 31) (ht : t ≤ 1000000) (hl : len ≤ 1048576) (h : k ≤ t) (h2 : A < len) (h3 : (t - k) / 8 < len - A)
   (hx : x < 256) (hB : w.cell? ⟨g, A + (t - k) / 8, none⟩ = some (.int .u8 x)) :
    Calls Try.prog 19 #[.slice (some ⟨g, 0, none⟩) len len, .int .i64 A, .int .u32 c, .int .i64 k, .int .i64 t] w fun e w' => e = .returned (.int .u32 (x / 2 ^ (7 - (t - k) % 8) % 2 : Nat)) ∧ w = w' := by
  go_enter Try.func19, Try.ntmps19
  go_wp2
  go_ret
  refine ⟨ret_int (a := bits BinOp.and IntKind.u32 ((x : Int) / 2 ^ (7 - (t - k) % 8) % 4294967296) 1) ?_, rfl⟩
  have e : (x : Int) / 2 ^ (7 - (t - k) % 8) % 4294967296 = (x : Int) / 2 ^ (7 - (t - k) % 8) := by
    have h : (x : Int) / 2 ^ (7 - (t - k) % 8) = ((x / 2 ^ (7 - (t - k) % 8) : Nat) : Int) := by push_cast; rfl
    have hle := Nat.div_le_self x (2 ^ (7 - (t - k) % 8))
    rw [h]
    generalize x / 2 ^ (7 - (t - k) % 8) = q at hle
    omega
  rw [e]
  exact and_shr x _ (by omega)

theorem sb_any {w : World} {b : Nat} {a : Option Addr} {len cap : Nat} {f : Nat → Int} (A c k t : Nat) (hf : ∀ j, 0 ≤ f j ∧ f j ≤ 255) (hk : k ≤ 31) (ht : t ≤ 1000000) (hl : len ≤ 1048576) (hc : c < 4294967296) (S : Src w b (.slice a len cap) len f) :
    Calls Try.prog 19 #[.slice a len cap, .int .i64 A, .int .u32 c, .int .i64 k, .int .i64 t] w fun e w' => e = .returned (.int .u32 (sb A len f k c t : Nat)) ∧ w = w' := by
  unfold sb byteAt
  by_cases h : t < k
  · rw [if_pos h]
    exact sb_in w a len cap A c k t hk hc h
  · rw [if_neg h]
    by_cases h2 : A + (t - k) / 8 < len
    · rw [if_pos h2]
      rcases S with ⟨_, rfl⟩ | ⟨g, e, hg, hB⟩
      · omega
      · simp only [Value.slice.injEq, true_and] at e
        obtain ⟨rfl, rfl⟩ := e
        have hfx := hf (A + (t - k) / 8)
        have hBx := hB (A + (t - k) / 8) h2
        rw [Nat.zero_add] at hBx
        have ex : f (A + (t - k) / 8) = (((f (A + (t - k) / 8)).toNat : Nat) : Int) := by omega
        rw [ex] at hBx
        exact sb_byte w g cap _ A c k t hk ht hl (by omega) (by omega) (by omega) (by omega) hBx
    · rw [if_neg h2, Nat.zero_div]
      exact sb_zero w a len cap A c k t hk ht hl (by omega) (by omega)

/-! ### THE EARLY TESTS -/
theorem zb18 (a : Option Addr) (len cap : Nat) (a1 a2 a3 a5 : Int) (a4 : Bool) (w : World) (hl : len ≤ 1048576) :
    Calls Try.prog 18 #[.slice a len cap, .int .i64 a1, .int .u32 a2, .int .u32 a3, .bool a4, .int .i64 a5] w fun e w' => e = .returned (.bool true) ∧ w = w' := by
  go_enter Try.func18, Try.ntmps18
  go_wp2
  go_ret
  exact ⟨rfl, rfl⟩
theorem zb18_no (a : Option Addr) (len cap : Nat) (a1 a2 a3 a5 : Int) (a4 : Bool) (w : World) (hl : ¬ len ≤ 1048576) :
    Calls Try.prog 18 #[.slice a len cap, .int .i64 a1, .int .u32 a2, .int .u32 a3, .bool a4, .int .i64 a5] w fun e w' => e = .returned (.bool false) ∧ w = w' := by
  go_enter Try.func18, Try.ntmps18
  go_wp2
  go_ret
  exact ⟨rfl, rfl⟩

/-- 'rng & (rng - 1) == 0' says that rng is a power of two. -/
theorem pow_of_and (r : Nat) (h0 : r ≠ 0) (h1 : r < 4294967296) (h : bits .and .u32 (r : Int) ((r : Int) - 1) = 0) : ∃ k, k ≤ 31 ∧ r = 2 ^ k := by
  have e : ((r : Int) - 1) = ((r - 1 : Nat) : Int) := by omega
  rw [e, (bits_nat .u32 32 (by decide) wraps_u32 r (r - 1) (by omega) (by omega)).1] at h
  have h' : r &&& (r - 1) = 0 := by exact_mod_cast h
  obtain ⟨k, rfl⟩ := (Nat.and_sub_one_eq_zero_iff_isPowerOfTwo h0).1 h'
  refine ⟨k, ?_, rfl⟩
  have : (2 : Nat) ^ k < 2 ^ 32 := by omega
  have := (Nat.pow_lt_pow_iff_right (by decide : 1 < 2)).1 this
  omega

end Go.Proofs.Qxb6619462a.Raw
