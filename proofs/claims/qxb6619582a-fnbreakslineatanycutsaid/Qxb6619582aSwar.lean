import Derived.WalkKit
import Derived.Lib.EndianBits
namespace Go.Proofs.Qxb6619582a
set_option linter.unusedVariables false

/-! ### BYTES IN A WORD: no Go in sight -/
/-- The number whose bytes, the lowest first, are L. -/
def num : List Nat → Nat
  | [] => 0
  | b :: L => b + 256 * num L
def ones : Nat → Nat
  | 0 => 0
  | n + 1 => 1 + 256 * ones n
def highs : Nat → Nat
  | 0 => 0
  | n + 1 => 128 + 256 * highs n
def Bytes (L : List Nat) : Prop := ∀ b ∈ L, b < 256

theorem num_lt {L : List Nat} (h : Bytes L) : num L < 256 ^ L.length := by
  induction L with
  | nil => simp [num]
  | cons b L ih =>
    have h1 := ih (fun x hx => h x (List.mem_cons_of_mem _ hx))
    have h2 := h b List.mem_cons_self
    simp only [num, List.length_cons, Nat.pow_succ]
    omega
theorem ones_lt (n : Nat) : ones n < 256 ^ n := by
  induction n with
  | zero => simp [ones]
  | succ n ih => simp only [ones, Nat.pow_succ]; omega
theorem num_rep (c n : Nat) : num (List.replicate n c) = c * ones n := by
  induction n with
  | zero => simp [num, ones]
  | succ n ih => simp only [List.replicate_succ, num, ones, ih]; rw [Nat.mul_add, Nat.mul_one, ← Nat.mul_assoc, ← Nat.mul_assoc, Nat.mul_comm 256 c]

theorem split_bit (a A j : Nat) (ha : a < 256) : (a + 256 * A).testBit j = if j < 8 then a.testBit j else A.testBit (j - 8) := by
  have := Nat.testBit_two_pow_mul_add A (i := 8) (b := a) (by omega) j
  rw [← this, Nat.add_comm]
theorem and_split (a A b B : Nat) (ha : a < 256) (hb : b < 256) : (a + 256 * A) &&& (b + 256 * B) = (a &&& b) + 256 * (A &&& B) := by
  apply Nat.eq_of_testBit_eq
  intro j
  have hab : a &&& b < 256 := Nat.lt_of_le_of_lt Nat.and_le_left ha
  rw [Nat.testBit_and, split_bit a A j ha, split_bit b B j hb, split_bit _ _ j hab]
  split <;> simp [Nat.testBit_and]
theorem xor_split (a A b B : Nat) (ha : a < 256) (hb : b < 256) : (a + 256 * A) ^^^ (b + 256 * B) = (a ^^^ b) + 256 * (A ^^^ B) := by
  apply Nat.eq_of_testBit_eq
  intro j
  have hab : a ^^^ b < 256 := Nat.xor_lt_two_pow (n := 8) ha hb
  rw [Nat.testBit_xor, split_bit a A j ha, split_bit b B j hb, split_bit _ _ j hab]
  split <;> simp [Nat.testBit_xor]

theorem num_xor (c : Nat) (hc : c < 256) : ∀ {L : List Nat}, Bytes L → num L ^^^ num (List.replicate L.length c) = num (L.map (fun x => x ^^^ c))
  | [], _ => by simp [num]
  | b :: L, h => by
    simp only [List.length_cons, List.replicate_succ, num, List.map_cons]
    rw [xor_split b _ c _ (h b List.mem_cons_self) hc, num_xor c hc (fun x hx => h x (List.mem_cons_of_mem _ hx))]
theorem bytes_xor (c : Nat) (hc : c < 256) {L : List Nat} (h : Bytes L) : Bytes (L.map (fun x => x ^^^ c)) := by
  intro b hb
  obtain ⟨x, hx, rfl⟩ := List.mem_map.1 hb
  exact Nat.xor_lt_two_pow (n := 8) (h x hx) hc

/-- The mark of the zero bytes. -/
def mark (n y : Nat) : Nat := (y + (256 ^ n - ones n)) % 256 ^ n &&& (256 ^ n - 1 - y)

theorem low128 : ∀ b, b < 256 → 1 ≤ b → ((b - 1) &&& (255 - b)) &&& 128 = 0 := by decide +kernel

theorem mark_iff : ∀ {L : List Nat}, Bytes L → (mark L.length (num L) &&& highs L.length ≠ 0 ↔ 0 ∈ L)
  | [], _ => by simp [mark, num, highs]
  | b :: L, h => by
    have hL : Bytes L := fun x hx => h x (List.mem_cons_of_mem _ hx)
    have hb := h b List.mem_cons_self
    have ih := mark_iff hL
    have hY := num_lt hL
    have ho := ones_lt L.length
    unfold mark at ih ⊢
    simp only [List.length_cons, num, ones, highs, Nat.pow_succ]
    generalize hm : 256 ^ L.length = m at *
    generalize num L = Y at *
    generalize ones L.length = o at *
    generalize highs L.length = H at *
    have e1 : (b + 256 * Y + (m * 256 - (1 + 256 * o))) % (m * 256) = (b + 256 * Y + (m * 256 - (1 + 256 * o))) % 256 + 256 * ((b + 256 * Y + (m * 256 - (1 + 256 * o))) / 256 % m) := by
      rw [Nat.mul_comm m 256, Nat.mod_mul]
    have e2 : m * 256 - 1 - (b + 256 * Y) = (255 - b) + 256 * (m - 1 - Y) := by omega
    rw [e1, e2]
    by_cases hz : b = 0
    · subst hz
      have e3 : (0 + 256 * Y + (m * 256 - (1 + 256 * o))) % 256 = 255 := by omega
      rw [e3, and_split _ _ _ _ (by omega) (by omega)]
      have e4 : 255 &&& (255 - 0) = 255 := by decide
      rw [e4, and_split _ _ _ _ (by omega) (by omega)]
      have e5 : 255 &&& 128 = 128 := by decide
      rw [e5]
      constructor
      · intro _; exact List.mem_cons_self
      · intro _; omega
    · have e3 : (b + 256 * Y + (m * 256 - (1 + 256 * o))) % 256 = b - 1 := by omega
      have e4 : (b + 256 * Y + (m * 256 - (1 + 256 * o))) / 256 = Y + (m - o) := by omega
      have hlow := low128 b hb (by omega)
      have hle : (b - 1) &&& (255 - b) < 256 := Nat.lt_of_le_of_lt Nat.and_le_left (by omega)
      rw [e3, e4, and_split _ _ _ _ (by omega) (by omega), and_split _ _ _ _ hle (by omega), hlow]
      rw [List.mem_cons, ← ih]
      constructor
      · intro hne; exact .inr (by omega)
      · rintro (e | hne)
        · omega
        · omega

theorem any_or3 (a b c h : Nat) : ((a ||| b ||| c) &&& h ≠ 0) ↔ (a &&& h ≠ 0 ∨ b &&& h ≠ 0 ∨ c &&& h ≠ 0) := by
  rw [Nat.and_or_distrib_right, Nat.and_or_distrib_right]
  have key : ∀ x y : Nat, x ||| y = 0 ↔ x = 0 ∧ y = 0 := by
    intro x y
    constructor
    · intro e
      have h1 := Nat.left_le_or (n := x) (m := y)
      have h2 := Nat.right_le_or (n := x) (m := y)
      omega
    · rintro ⟨rfl, rfl⟩; rfl
  constructor
  · intro hne
    apply Classical.byContradiction
    intro hcon
    apply hne
    rw [key, key]
    omega
  · intro hor hz
    rw [key, key] at hz
    omega

/-- Some byte of L is one of x, y, z. -/
theorem marks_iff (L : List Nat) (hL : Bytes L) (x y z : Nat) (hx : x < 256) (hy : y < 256) (hz : z < 256) :
    ((mark L.length (num L ^^^ x * ones L.length) ||| mark L.length (num L ^^^ y * ones L.length) ||| mark L.length (num L ^^^ z * ones L.length)) &&& highs L.length ≠ 0) ↔ ∃ b ∈ L, b = x ∨ b = y ∨ b = z := by
  have one : ∀ c, c < 256 → (mark L.length (num L ^^^ c * ones L.length) &&& highs L.length ≠ 0 ↔ c ∈ L) := by
    intro c hc
    rw [← num_rep, num_xor c hc hL]
    have := mark_iff (bytes_xor c hc hL)
    rw [List.length_map] at this
    rw [this, List.mem_map]
    constructor
    · rintro ⟨b, hb, e⟩
      have : b = c := by
        have h1 : b ^^^ c ^^^ c = 0 ^^^ c := by rw [e]
        simpa [Nat.xor_assoc] using h1
      exact this ▸ hb
    · intro h
      exact ⟨c, h, Nat.xor_self c⟩
  rw [any_or3, one x hx, one y hy, one z hz]
  constructor
  · rintro (h | h | h)
    · exact ⟨x, h, .inl rfl⟩
    · exact ⟨y, h, .inr (.inl rfl)⟩
    · exact ⟨z, h, .inr (.inr rfl)⟩
  · rintro ⟨b, hb, rfl | rfl | rfl⟩
    · exact .inl hb
    · exact .inr (.inl hb)
    · exact .inr (.inr hb)

/-! ### AS THE WALK SPELLS IT -/
theorem word_num (b0 b1 b2 b3 b4 b5 b6 b7 : Nat) (h0 : b0 < 256) (h1 : b1 < 256) (h2 : b2 < 256) (h3 : b3 < 256) (h4 : b4 < 256) (h5 : b5 < 256) (h6 : b6 < 256) (h7 : b7 < 256) :
    bits .or .u64 (bits .or .u64 (bits .or .u64 (bits .or .u64 (bits .or .u64 (bits .or .u64 (bits .or .u64 (IntKind.u64.wrap (b0 : Int)) (IntKind.u64.wrap (IntKind.u64.wrap (b1 : Int) * 256))) (IntKind.u64.wrap (IntKind.u64.wrap (b2 : Int) * 65536))) (IntKind.u64.wrap (IntKind.u64.wrap (b3 : Int) * 16777216))) (IntKind.u64.wrap (IntKind.u64.wrap (b4 : Int) * 4294967296))) (IntKind.u64.wrap (IntKind.u64.wrap (b5 : Int) * 1099511627776))) (IntKind.u64.wrap (IntKind.u64.wrap (b6 : Int) * 281474976710656))) (IntKind.u64.wrap (IntKind.u64.wrap (b7 : Int) * 72057594037927936)) = (num [b0, b1, b2, b3, b4, b5, b6, b7] : Int) := by
  simp (disch := omega) only [u64_wrap_id, u64_or8, u64_or16, u64_or24, u64_or32, u64_or40, u64_or48, u64_or56]
  simp only [num]
  omega

theorem flag_mark (x y : Nat) (hx : x < 18446744073709551616) (hy : y < 18446744073709551616) :
    bits .andNot .u64 (IntKind.u64.wrap (bits .xor .u64 (x : Int) (y : Int) - 72340172838076673)) (bits .xor .u64 (x : Int) (y : Int)) = (mark 8 (x ^^^ y) : Int) ∧ mark 8 (x ^^^ y) < 18446744073709551616 := by
  have hxy : x ^^^ y < 18446744073709551616 := Nat.xor_lt_two_pow (n := 64) hx hy
  rw [u64_xor_nat x y hx hy]
  have hw := wrap_sub_u64_nat (x ^^^ y) 72340172838076673 18374403900871474943 (by decide)
  have e : (72340172838076673 : Int) = ((72340172838076673 : Nat) : Int) := rfl
  rw [e, hw]
  have hm : ((x ^^^ y) + 18374403900871474943) % 18446744073709551616 < 18446744073709551616 := Nat.mod_lt _ (by decide)
  rw [u64_andNot_nat _ _ hm hxy]
  have e8 : (256 : Nat) ^ 8 = 18446744073709551616 := by decide
  have eo : ones 8 = 72340172838076673 := by decide
  unfold mark
  rw [e8, eo]
  exact ⟨rfl, Nat.lt_of_le_of_lt Nat.and_le_left hm⟩

/-- THE TEST OF breaksLine's WORDS. -/
theorem test_iff (L : List Nat) (hL : Bytes L) (h8 : L.length = 8) (X : Int) (hX : X = (num L : Int)) (c : Nat) (hc : c < 256) :
    ((bits .and .u64 (bits .or .u64 (bits .or .u64 (bits .andNot .u64 (IntKind.u64.wrap (bits .xor .u64 X 940422246894996749 - 72340172838076673)) (bits .xor .u64 X 940422246894996749))
        (bits .andNot .u64 (IntKind.u64.wrap (bits .xor .u64 X 723401728380766730 - 72340172838076673)) (bits .xor .u64 X 723401728380766730)))
        (bits .andNot .u64 (IntKind.u64.wrap (bits .xor .u64 X ((c : Int) * 72340172838076673) - 72340172838076673)) (bits .xor .u64 X ((c : Int) * 72340172838076673)))) 9259542123273814144 != 0) = true) ↔ ∃ b ∈ L, b = 13 ∨ b = 10 ∨ b = c := by
  subst hX
  have hn := num_lt hL
  rw [h8] at hn
  have e8 : (256 : Nat) ^ 8 = 18446744073709551616 := by decide
  rw [e8] at hn
  have eo : ones 8 = 72340172838076673 := by decide
  have eh : highs 8 = 9259542123273814144 := by decide
  have c1 : (940422246894996749 : Int) = ((13 * ones 8 : Nat) : Int) := by rw [eo]; rfl
  have c2 : (723401728380766730 : Int) = ((10 * ones 8 : Nat) : Int) := by rw [eo]; rfl
  have c3 : (c : Int) * 72340172838076673 = ((c * ones 8 : Nat) : Int) := by rw [eo]; omega
  have l1 : 13 * ones 8 < 18446744073709551616 := by rw [eo]; omega
  have l2 : 10 * ones 8 < 18446744073709551616 := by rw [eo]; omega
  have l3 : c * ones 8 < 18446744073709551616 := by rw [eo]; omega
  rw [c1, c2, c3]
  obtain ⟨f1, g1⟩ := flag_mark (num L) (13 * ones 8) hn l1
  obtain ⟨f2, g2⟩ := flag_mark (num L) (10 * ones 8) hn l2
  obtain ⟨f3, g3⟩ := flag_mark (num L) (c * ones 8) hn l3
  rw [f1, f2, f3]
  have m := marks_iff L hL 13 10 c (by decide) (by decide) hc
  rw [h8] at m
  have o1 : mark 8 (num L ^^^ 13 * ones 8) ||| mark 8 (num L ^^^ 10 * ones 8) < 18446744073709551616 := Nat.or_lt_two_pow (n := 64) g1 g2
  have o2 : mark 8 (num L ^^^ 13 * ones 8) ||| mark 8 (num L ^^^ 10 * ones 8) ||| mark 8 (num L ^^^ c * ones 8) < 18446744073709551616 := Nat.or_lt_two_pow (n := 64) o1 g3
  rw [u64_or_nat _ _ g1 g2, u64_or_nat _ _ o1 g3]
  have ehI : (9259542123273814144 : Int) = ((highs 8 : Nat) : Int) := by rw [eh]; rfl
  rw [ehI, u64_and_nat _ _ o2 (by rw [eh]; decide), ← m]
  simp only [bne_iff_ne, ne_eq, Int.natCast_eq_zero]

end Go.Proofs.Qxb6619582a
