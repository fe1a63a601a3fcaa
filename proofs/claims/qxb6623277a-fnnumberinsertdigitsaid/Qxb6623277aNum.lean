import Derived.Test.Qxb6623277aRows
import Derived.WalkKit
import Derived.WalkSpells
import Derived.WalkLawsBesides
import Derived.ProofKit
import Derived.Below
import Derived.Deep.QuietTactic
import Derived.BigQuiet
import Derived.Lib.ConvBytes
namespace Go.Proofs.Qxb6623277a
open Go.RowKit
set_option linter.unusedVariables false

/-! ### int's ARITHMETIC WRAPS: sums and products may be wrapped where one likes -/
theorem wrap_q (x : Int) : ∃ q : Int, wrap64 x = x - 18446744073709551616 * q := ⟨(x + 9223372036854775808) / 18446744073709551616, by unfold wrap64; omega⟩
theorem wrap_sub (x t : Int) : wrap64 (x - 18446744073709551616 * t) = wrap64 x := by unfold wrap64; omega
theorem wrap_add_l (x y : Int) : wrap64 (wrap64 x + y) = wrap64 (x + y) := by unfold wrap64; omega
theorem wrap_add_r (x y : Int) : wrap64 (x + wrap64 y) = wrap64 (x + y) := by unfold wrap64; omega
theorem wrap_mul_l (x y : Int) : wrap64 (wrap64 x * y) = wrap64 (x * y) := by
  obtain ⟨q, e⟩ := wrap_q x
  rw [e, Int.sub_mul, Int.mul_assoc, wrap_sub]
theorem wrap_mul_r (x y : Int) : wrap64 (x * wrap64 y) = wrap64 (x * y) := by rw [Int.mul_comm, wrap_mul_l, Int.mul_comm]

/-- int(b - '0'), b a byte. -/
def dig (b : UInt8) : Int := ((b.toNat : Int) - 48) % 256
/-- The number that the bytes write, unwrapped. -/
def numZ (l : List UInt8) : Int := l.foldl (fun n b => n * 10 + dig b) 0
theorem numZ_from (l : List UInt8) : ∀ n : Int, l.foldl (fun n b => n * 10 + dig b) n = n * 10 ^ l.length + numZ l := by
  induction l with
  | nil => intro n; simp [numZ]
  | cons b l ih =>
    intro n
    unfold numZ
    rw [List.foldl_cons, List.foldl_cons, ih, ih (0 * 10 + dig b), List.length_cons, Int.pow_succ]
    rw [Int.add_mul, Int.zero_mul, Int.zero_add, Int.mul_assoc, Int.mul_comm 10]
    omega
theorem numZ_append (a b : List UInt8) : numZ (a ++ b) = numZ a * 10 ^ b.length + numZ b := by
  show (a ++ b).foldl _ 0 = _
  rw [List.foldl_append, numZ_from]
  rfl
theorem numZ_one (d : UInt8) : numZ [d] = dig d := by simp [numZ]
theorem take_snoc (s : ByteArray) (k : Nat) (h : k < s.size) : s.data.toList.take (k + 1) = s.data.toList.take k ++ [s[k]] := by
  rw [List.take_succ_eq_append_getElem (by simpa using h)]; rfl

theorem ret_bool {b : Bool} (h : b = true) : Ending.returned (.bool b) = .returned (.bool true) := by rw [h]
theorem ret_int {k : IntKind} {a b : Int} (h : a = b) : Ending.returned (.int k a) = .returned (.int k b) := by rw [h]
set_option maxHeartbeats 400000 in
theorem number_any (s : ByteArray) (w : World) (hs : s.size ≤ 4194304) :
    Calls Try.prog 6 #[.string s] w fun e w' => e = .returned (.int .i64 (wrap64 (numZ s.data.toList))) ∧ w = w' := by
  go_enter Try.func6, Try.ntmps6
  go_wp2
  go_loop [3, 4] (fun n i => ∃ (k : Nat) (q : Int), k ≤ s.size ∧ i = .int .i64 k ∧ n = .int .i64 q ∧ Hid (q = wrap64 (numZ (s.data.toList.take k)))) (fun _ i => s.size - (intOf i).toNat)
  case atStart => exact ⟨0, 0, Nat.zero_le _, rfl, rfl, by show (0 : Int) = _; simp [numZ, wrap64]⟩
  case round =>
    obtain ⟨k, q, hk, rfl, rfl, HQ⟩ := hrel
    by_cases hlt : k < s.size
    · go_wp2
      go_round
      case rel =>
        refine ⟨k + 1, _, by omega, by go_num, rfl, ?_⟩
        show _ = wrap64 (numZ (s.data.toList.take (k + 1)))
        rw [take_snoc s k hlt, numZ_append, numZ_one, HQ.out]
        show wrap64 (wrap64 (wrap64 (numZ (s.data.toList.take k)) * 10) + dig s[k]) = wrap64 (numZ (s.data.toList.take k) * 10 ^ 1 + dig s[k])
        rw [wrap_mul_l, wrap_add_l]
        rfl
      case measure => simp [intOf]; omega
    · go_wp2
      go_ret
      refine ⟨ret_int ?_, rfl⟩
      rw [HQ.out, List.take_of_length_le (by simp; omega)]

set_option maxHeartbeats 400000 in
theorem zznumber_any (s : ByteArray) (w : World) (hs : s.size ≤ 4194304) :
    Calls Try.prog 5 #[.string s] w fun e w' => e = .returned (.int .i64 (wrap64 (numZ s.data.toList))) ∧ w = w' := by
  go_enter Try.func5, Try.ntmps5
  go_wp2_with fail
  refine (number_any s w hs).mono ?_
  rintro e w' ⟨rfl, rfl⟩
  go_wp2
  go_ret
  exact ⟨rfl, rfl⟩

theorem zznumber_ex (s : ByteArray) (w : World) (hs : s.size ≤ 4194304) :
    Calls Try.prog 5 #[.string s] w fun e w' => ∃ x, e = .returned (.int .i64 x) ∧ Hid (x = wrap64 (numZ s.data.toList)) ∧ w = w' :=
  (zznumber_any s w hs).mono fun e w' ⟨he, hw⟩ => ⟨_, he, rfl, hw⟩

/-! ### THE LAW's WALK -/
theorem zb4 (a b : ByteArray) (d : Int) (w : World) (h1 : a.size ≤ 1048576) (h2 : b.size ≤ 1048576) (h : a.size + b.size ≤ 1048576) : Calls Try.prog 4 #[.string a, .int .u8 d, .string b] w fun e w' => e = .returned (.bool true) ∧ w = w' := by
  go_enter Try.func4, Try.ntmps4
  go_wp2
  go_ret
  exact ⟨rfl, rfl⟩
theorem zb4_no (a b : ByteArray) (d : Int) (w : World) (h0 : a.size ≤ maxLen) (h3 : b.size ≤ maxLen) (h : 1048576 < a.size ∨ (a.size ≤ 1048576 ∧ 1048576 < b.size) ∨ (a.size ≤ 1048576 ∧ b.size ≤ 1048576 ∧ 1048576 < a.size + b.size)) : Calls Try.prog 4 #[.string a, .int .u8 d, .string b] w fun e w' => e = .returned (.bool false) ∧ w = w' := by
  unfold maxLen at h0 h3
  rcases h with h | ⟨h1, h2⟩ | ⟨h1, h2, h3⟩
  all_goals
    go_enter Try.func4, Try.ntmps4
    go_wp2
    go_ret
    exact ⟨rfl, rfl⟩

theorem conv1 (W : World) (B d : Nat) (hc : W.cell? ⟨B, 0, none⟩ = some (.int .u8 (d : Int))) :
    (convert 24 9 (.slice (some ⟨B, 0, none⟩) 1 1)).run Try.prog W = .ok (.string (ByteArray.mk #[UInt8.ofNat d])) W := by
  rw [run_convert_bytes_string _ 24 9 5 _ _ _ Try.underlying24 Try.underlying5 Try.underlying9]
  have h := run_loadCells_list (P := Try.prog) (w := W) ⟨B, 0, none⟩ ([(d : Int)].map (Value.int .u8)) (by
    intro j v hv
    have hj : j = 0 := by
      have := (List.getElem?_eq_some_iff.1 hv).1
      simp at this
      omega
    subst hj
    simp at hv
    subst hv
    rw [Addr.add_lit]
    exact hc)
  have := run_bytesToString W ⟨B, 0, none⟩ 1 1 [(d : Int)] h
  rw [this]
  rfl

theorem dig_of (d : Nat) (h0 : 48 ≤ d) (h1 : d ≤ 57) : dig (UInt8.ofNat d) = (d : Int) - 48 := by
  unfold dig
  rw [UInt8.toNat_ofNat']
  omega
theorem final (a b : ByteArray) (d : Nat) (h0 : 48 ≤ d) (h1 : d ≤ 57) : wrap64 (numZ (a ++ ByteArray.mk #[UInt8.ofNat d] ++ b).data.toList) =
    wrap64 (wrap64 (wrap64 (wrap64 (wrap64 (numZ a.data.toList) * wrap64 (10 ^ b.size)) * 10) + wrap64 (((d : Int) - 48) * wrap64 (10 ^ b.size))) + wrap64 (numZ b.data.toList)) := by
  simp only [wrap_mul_l, wrap_mul_r, wrap_add_l, wrap_add_r]
  have e : (a ++ ByteArray.mk #[UInt8.ofNat d] ++ b).data.toList = (a.data.toList ++ [UInt8.ofNat d]) ++ b.data.toList := by simp
  rw [e, numZ_append, numZ_append, numZ_one, dig_of d h0 h1]
  have el : b.data.toList.length = b.size := by simp
  rw [el]
  generalize (10 : Int) ^ b.size = P
  generalize numZ a.data.toList = A
  generalize numZ b.data.toList = B
  have e1 : ([UInt8.ofNat d] : List UInt8).length = 1 := rfl
  rw [e1, Int.pow_one, Int.add_mul, Int.mul_assoc A 10 P, Int.mul_comm 10 P, ← Int.mul_assoc]

set_option maxRecDepth 20000 in
set_option maxHeartbeats 1000000 in
theorem insert_main (a b : ByteArray) (d : Nat) (w : World) (ha : a.size ≤ 1048576) (hb : b.size ≤ 65536) (hab : a.size + b.size ≤ 1048576) (hd0 : 48 ≤ d) (hd1 : d ≤ 57) :
    Calls Try.prog 3 #[.string a, .int .u8 d, .string b] w fun e w' => e = .returned (.bool true) ∧ Below w.heap.size w w' := by
  go_enter Try.func3, Try.ntmps3
  go_wp2_with (go_at_call 4; refine (zb4 _ _ _ _ ha (by omega) hab).mono ?_; rintro e w' ⟨rfl, rfl⟩)
  go_loop [7, 8] (fun p i => ∃ (k : Nat) (q : Int), k ≤ b.size ∧ i = .int .i64 k ∧ p = .int .i64 q ∧ Hid (q = wrap64 (10 ^ k))) (fun _ i => b.size - (intOf i).toNat)
  case atStart => exact ⟨0, 1, Nat.zero_le _, rfl, rfl, by show (1 : Int) = _; simp [wrap64]⟩
  case round =>
    obtain ⟨k, q, hk, rfl, rfl, HQ⟩ := hrel
    by_cases hlt : k < b.size
    · go_wp2
      go_round
      case rel =>
        refine ⟨k + 1, _, by omega, by go_num, rfl, ?_⟩
        show _ = wrap64 (10 ^ (k + 1))
        rw [HQ.out, wrap_mul_l]
        rfl
      case measure => simp [intOf]; omega
    · have e : k = b.size := by omega
      subst e
      have hcv := conv1 (w.alloc (.cells #[.int .u8 (d : Int)] 5)) w.heap.size d (by go_simp)
      go_wp2_with fail
      have hsz : (a ++ ByteArray.mk #[UInt8.ofNat d] ++ b).size ≤ 4194304 := by
        rw [ByteArray.size_append, ByteArray.size_append]
        show a.size + 1 + b.size ≤ _
        omega
      refine (zznumber_ex _ _ hsz).mono ?_
      rintro e w1 ⟨x1, rfl, H1, rfl⟩
      clear hsz hcv
      go_wp2_with fail
      refine (zznumber_ex a _ (by omega)).mono ?_
      rintro e w1 ⟨xa, rfl, HA, rfl⟩
      go_wp2_with fail
      refine (zznumber_ex b _ (by omega)).mono ?_
      rintro e w1 ⟨xb, rfl, HB, rfl⟩
      go_wp2
      go_ret
      refine ⟨ret_bool ?_, (Below.refl _ _).alloc (Nat.le_refl _) _⟩
      rw [H1.out, HA.out, HB.out, HQ.out, final a b d hd0 hd1]
      exact beq_self_eq_true _

end Go.Proofs.Qxb6623277a
