import Derived.Test.Qxb6619462aDirect
namespace Go.Proofs.Qxb6619462a.Raw
set_option linter.unusedVariables false

/-! ### THE PLAIN LAW OF direct UNDER A RANGE THAT IS A POWER OF TWO: no Go in sight -/
/-- Byte t of what lies from A on, zeros behind its end. -/
def byteAt (A len : Nat) (f : Nat → Int) (t : Nat) : Nat := if A + t < len then (f (A + t)).toNat else 0
/-- Bit t of the stream: the k low bits of c, then the bytes. -/
def sb (A len : Nat) (f : Nat → Int) (k c t : Nat) : Nat :=
  if t < k then c / 2 ^ (k - 1 - t) % 2 else byteAt A len f ((t - k) / 8) / 2 ^ (7 - (t - k) % 8) % 2
/-- The number whose bits are b s, .., b (s + n - 1). -/
def val (b : Nat → Nat) (s : Nat) : Nat → Nat
  | 0 => 0
  | n + 1 => val b s n * 2 + b (s + n)
/-- Unread bits and taken bytes behind i bits. -/
def ut (k : Nat) : Nat → Nat × Nat
  | 0 => (k, 0)
  | i + 1 => if (ut k i).1 < 24 then ((ut k i).1 + 7, (ut k i).2 + 1) else ((ut k i).1 - 1, (ut k i).2)
/-- The first i bits, in 32 bits. -/
def want (b : Nat → Nat) : Nat → Int
  | 0 => 0
  | i + 1 => want b i * 2 % 4294967296 + (b i : Int)

theorem sb_le (A len : Nat) (f : Nat → Int) (k c t : Nat) : sb A len f k c t ≤ 1 := by unfold sb; split <;> omega

theorem val_add (b : Nat → Nat) (s x y : Nat) : val b s (x + y) = val b s x * 2 ^ y + val b (s + x) y := by
  induction y with
  | zero => simp [val]
  | succ y ih =>
    show val b s (x + y) * 2 + b (s + (x + y)) = _
    rw [ih, Nat.pow_succ]
    show _ = _ + (val b (s + x) y * 2 + b (s + x + y))
    rw [Nat.add_mul, Nat.mul_assoc, Nat.add_assoc s x y]
    omega
theorem val_head (b : Nat → Nat) (s y : Nat) : val b s (y + 1) = b s * 2 ^ y + val b (s + 1) y := by
  have := val_add b s 1 y
  rw [Nat.add_comm y 1, this]
  show (0 * 2 + b (s + 0)) * _ + _ = _
  simp
theorem val_lt {b : Nat → Nat} (hb : ∀ t, b t ≤ 1) (s y : Nat) : val b s y < 2 ^ y := by
  induction y with
  | zero => simp [val]
  | succ y ih =>
    show val b s y * 2 + b (s + y) < _
    have := hb (s + y)
    rw [Nat.pow_succ]
    omega
theorem val_of (b : Nat → Nat) (s m x : Nat) (hx : x < 2 ^ m) (h : ∀ i, i < m → b (s + i) = x / 2 ^ (m - 1 - i) % 2) : ∀ q, q ≤ m → val b s q = x / 2 ^ (m - q)
  | 0, _ => by show 0 = _; rw [Nat.sub_zero, Nat.div_eq_of_lt hx]
  | q + 1, hq => by
    show val b s q * 2 + b (s + q) = _
    rw [val_of b s m x hx h q (by omega), h q (by omega)]
    have e1 : m - q = (m - 1 - q) + 1 := by omega
    have e2 : m - (q + 1) = m - 1 - q := by omega
    rw [e1, e2, Nat.pow_succ, ← Nat.div_div_eq_div_mul]
    omega
theorem val_full (b : Nat → Nat) (s m x : Nat) (hx : x < 2 ^ m) (h : ∀ i, i < m → b (s + i) = x / 2 ^ (m - 1 - i) % 2) : val b s m = x := by
  have := val_of b s m x hx h m (Nat.le_refl _)
  rwa [Nat.sub_self, Nat.pow_zero, Nat.div_one] at this

theorem val_code (A len : Nat) (f : Nat → Int) (k c : Nat) (hc : c < 2 ^ k) : val (sb A len f k c) 0 k = c :=
  val_full _ 0 k c hc (fun i hi => by unfold sb; rw [Nat.zero_add, if_pos hi])
theorem byteAt_lt (A len : Nat) (f : Nat → Int) (hf : ∀ j, 0 ≤ f j ∧ f j ≤ 255) (t : Nat) : byteAt A len f t < 256 := by
  unfold byteAt
  split
  · have := hf (A + t); omega
  · omega
theorem val_byte (A len : Nat) (f : Nat → Int) (hf : ∀ j, 0 ≤ f j ∧ f j ≤ 255) (k c t : Nat) : val (sb A len f k c) (k + 8 * t) 8 = byteAt A len f t := by
  refine val_full _ _ 8 _ (byteAt_lt A len f hf t) (fun i hi => ?_)
  unfold sb
  rw [if_neg (by omega)]
  have e1 : (k + 8 * t + i - k) / 8 = t := by omega
  have e2 : (k + 8 * t + i - k) % 8 = i := by omega
  rw [e1, e2]

theorem ut_inv (k : Nat) (hk : k ≤ 31) (i : Nat) : i + (ut k i).1 = k + 8 * (ut k i).2 ∧ (ut k i).1 ≤ 31 := by
  induction i with
  | zero => exact ⟨by show 0 + k = k + 8 * 0; omega, hk⟩
  | succ i ih =>
    unfold ut
    split <;> (simp only []; omega)

theorem pow_lt24 (u : Nat) (h : u < 24) : (2 : Nat) ^ u ≤ 8388608 := by
  have : (2 : Nat) ^ u ≤ 2 ^ 23 := Nat.pow_le_pow_right (by decide) (by omega)
  omega
theorem pow_ge24 (u : Nat) (h : 24 ≤ u) : (16777216 : Nat) ≤ 2 ^ u := by
  have : (2 : Nat) ^ 24 ≤ 2 ^ u := Nat.pow_le_pow_right (by decide) h
  omega

/-- THE DECODER's STATE BEHIND i BITS. -/
def stAt (A len : Nat) (f : Nat → Int) (k c : Nat) (ov : Bool) (i : Nat) : St :=
  ⟨((A + min (ut k i).2 (len - A) : Nat) : Int), ((2 ^ (ut k i).1 : Nat) : Int), (val (sb A len f k c) i (ut k i).1 : Int), ov || decide (len - A < (ut k i).2)⟩

/-- normalize: eight bits more where fewer than 24 are unread. -/
theorem norm_st (A len : Nat) (f : Nat → Int) (hf : ∀ j, 0 ≤ f j ∧ f j ≤ 255) (k c : Nat) (hk : k ≤ 31) (ov : Bool) (i : Nat) :
    normS len f (stAt A len f k c ov i) = if (ut k i).1 < 24
      then ⟨((A + min ((ut k i).2 + 1) (len - A) : Nat) : Int), ((2 ^ ((ut k i).1 + 8) : Nat) : Int), (val (sb A len f k c) i ((ut k i).1 + 8) : Int), ov || decide (len - A < (ut k i).2 + 1)⟩
      else stAt A len f k c ov i := by
  obtain ⟨hi, hu⟩ := ut_inv k hk i
  have hv := val_lt (sb_le A len f k c) i (ut k i).1
  have hb := val_byte A len f hf k c (ut k i).2
  have ha := val_add (sb A len f k c) i (ut k i).1 8
  rw [hi, hb] at ha
  unfold stAt normS
  simp only []
  generalize hu' : (ut k i).1 = u at *
  generalize ht' : (ut k i).2 = t at *
  by_cases h24 : u < 24
  · have hp := pow_lt24 u h24
    rw [if_pos h24, if_neg (by omega)]
    have hvb : val (sb A len f k c) i u < 8388608 := by omega
    have e8 : (2 : Nat) ^ (u + 8) = 2 ^ u * 256 := by rw [Nat.pow_add]
    have e256 : (2 : Nat) ^ 8 = 256 := by decide
    rw [e256] at ha
    by_cases hL : t < len - A
    · have m1 : min t (len - A) = t := by omega
      have m2 : min (t + 1) (len - A) = t + 1 := by omega
      rw [m1, m2, if_pos (by omega), e8, ha]
      have hby : byteAt A len f t = (f (A + t)).toNat := by unfold byteAt; rw [if_pos (by omega)]
      have hft := hf (A + t)
      have d1 : decide (len - A < t) = false := decide_eq_false (by omega)
      have d2 : decide (len - A < t + 1) = false := decide_eq_false (by omega)
      rw [hby, d1, d2]
      have et : ((A + t : Nat) : Int).toNat = A + t := by omega
      rw [et]
      congr 1 <;> omega
    · have m1 : min t (len - A) = len - A := by omega
      have m2 : min (t + 1) (len - A) = len - A := by omega
      rw [m1, m2, if_neg (by omega), e8, ha]
      have hby : byteAt A len f t = 0 := by unfold byteAt; rw [if_neg (by omega)]
      have d2 : decide (len - A < t + 1) = true := decide_eq_true (by omega)
      rw [hby, d2]
      congr 1 <;> first | omega | simp
  · have hp := pow_ge24 u (by omega)
    rw [if_neg h24, if_pos (by omega)]

theorem half_st (a : Int) (b : Nat → Nat) (hb : ∀ t, b t ≤ 1) (i u : Nat) (ov : Bool) :
    halfS ⟨a, ((2 ^ (u + 1) : Nat) : Int), (val b i (u + 1) : Int), ov⟩ = ⟨a, ((2 ^ u : Nat) : Int), (val b (i + 1) u : Int), ov⟩ ∧
    bitS ⟨a, ((2 ^ (u + 1) : Nat) : Int), (val b i (u + 1) : Int), ov⟩ = (b i : Int) := by
  have h1 := val_head b i u
  have h2 := val_lt hb (i + 1) u
  have h3 := hb i
  have hp : (2 : Nat) ^ (u + 1) = 2 ^ u * 2 := Nat.pow_succ ..
  have hd : ((2 ^ (u + 1) : Nat) : Int) / 2 = ((2 ^ u : Nat) : Int) := by rw [hp]; omega
  unfold halfS bitS
  simp only []
  rw [hd]
  by_cases hz : b i = 0
  · rw [hz, Nat.zero_mul, Nat.zero_add] at h1
    rw [h1, if_neg (by omega), if_neg (by omega), hz]
    exact ⟨rfl, rfl⟩
  · have e1 : b i = 1 := by omega
    rw [e1, Nat.one_mul] at h1
    rw [h1, if_pos (by omega), if_pos (by omega), e1]
    refine ⟨?_, rfl⟩
    congr 1
    omega

theorem dir_st (A len : Nat) (f : Nat → Int) (hf : ∀ j, 0 ≤ f j ∧ f j ≤ 255) (k c : Nat) (hk : k ≤ 31) (hc : c < 2 ^ k) (ov : Bool) (i : Nat) :
    dirS len f ⟨(A : Int), ((2 ^ k : Nat) : Int), (c : Int), ov⟩ i = stAt A len f k c ov i ∧
    dirV len f ⟨(A : Int), ((2 ^ k : Nat) : Int), (c : Int), ov⟩ i = want (sb A len f k c) i := by
  induction i with
  | zero =>
    refine ⟨?_, rfl⟩
    show (⟨_, _, _, _⟩ : St) = _
    unfold stAt ut
    simp only []
    rw [val_code A len f k c hc]
    simp
  | succ i ih =>
    obtain ⟨ih1, ih2⟩ := ih
    unfold dirS dirV want
    rw [ih1, ih2, norm_st A len f hf k c hk ov i]
    obtain ⟨hi, hu⟩ := ut_inv k hk i
    by_cases h24 : (ut k i).1 < 24
    · rw [if_pos h24]
      obtain ⟨a1, a2⟩ := half_st ((A + min ((ut k i).2 + 1) (len - A) : Nat) : Int) (sb A len f k c) (sb_le A len f k c) i ((ut k i).1 + 7) (ov || decide (len - A < (ut k i).2 + 1))
      rw [a1, a2]
      refine ⟨?_, rfl⟩
      have e : ut k (i + 1) = ((ut k i).1 + 7, (ut k i).2 + 1) := by conv => lhs; unfold ut
                                                                     rw [if_pos h24]
      unfold stAt
      rw [e]
    · rw [if_neg h24]
      have e : ut k (i + 1) = ((ut k i).1 - 1, (ut k i).2) := by conv => lhs; unfold ut
                                                                 rw [if_neg h24]
      obtain ⟨a1, a2⟩ := half_st ((A + min (ut k i).2 (len - A) : Nat) : Int) (sb A len f k c) (sb_le A len f k c) i ((ut k i).1 - 1) (ov || decide (len - A < (ut k i).2))
      have e1 : (ut k i).1 - 1 + 1 = (ut k i).1 := by omega
      rw [e1] at a1 a2
      unfold stAt
      rw [e, a1, a2]
      exact ⟨rfl, rfl⟩

end Go.Proofs.Qxb6619462a.Raw
