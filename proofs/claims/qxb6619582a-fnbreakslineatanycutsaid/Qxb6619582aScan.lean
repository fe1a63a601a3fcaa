import Derived.Test.Qxb6619582aRows
import Derived.Test.Qxb6619582aSwar
import Derived.WalkKit
import Derived.WalkSpells
import Derived.WalkLawsBesides
import Derived.ProofKit
import Derived.Below
import Derived.Deep.QuietTactic
import Derived.BigQuiet
namespace Go.Proofs.Qxb6619582a
open Go.RowKit
set_option linter.unusedVariables false

/-- Byte i of s is a line end or c. -/
def Hit (s : ByteArray) (c i : Nat) : Prop := ∃ h : i < s.size, (s[i]'h).toNat = 13 ∨ (s[i]'h).toNat = 10 ∨ (s[i]'h).toNat = c
theorem Hit.lt {s : ByteArray} {c i : Nat} (h : Hit s c i) : i < s.size := h.1
theorem lt8 (x : UInt8) : x.toNat < 256 := x.toNat_lt

theorem idx (s : ByteArray) (i : Int) (j : Nat) (e : i = (j : Int)) (h : j < s.size) (w : World) : (Instr.index 9 (.string s) (.int .i64 i)).run Try.prog w = .ok (.int .u8 ((s[j]'h).toNat : Nat)) w := by
  subst e
  rw [run_index_string _ _ _ _ _ Try.underlying9, dif_pos ⟨by omega, by omega⟩]
  simp

theorem word_hit (s : ByteArray) (c k : Nat) (h0 : k < s.size) (h1 : k + 1 < s.size) (h2 : k + 2 < s.size) (h3 : k + 3 < s.size) (h4 : k + 4 < s.size) (h5 : k + 5 < s.size) (h6 : k + 6 < s.size) (h7 : k + 7 < s.size) : (∃ b ∈ [(s[k]'h0).toNat, (s[k + 1]'h1).toNat, (s[k + 2]'h2).toNat, (s[k + 3]'h3).toNat, (s[k + 4]'h4).toNat, (s[k + 5]'h5).toNat, (s[k + 6]'h6).toNat, (s[k + 7]'h7).toNat], b = 13 ∨ b = 10 ∨ b = c) ↔ ∃ i, k ≤ i ∧ i < k + 8 ∧ Hit s c i := by
  constructor
  · rintro ⟨b, hb, h⟩
    simp only [List.mem_cons, List.not_mem_nil, or_false] at hb
    rcases hb with rfl | rfl | rfl | rfl | rfl | rfl | rfl | rfl
    · exact ⟨k, by omega, by omega, h0, h⟩
    · exact ⟨k + 1, by omega, by omega, h1, h⟩
    · exact ⟨k + 2, by omega, by omega, h2, h⟩
    · exact ⟨k + 3, by omega, by omega, h3, h⟩
    · exact ⟨k + 4, by omega, by omega, h4, h⟩
    · exact ⟨k + 5, by omega, by omega, h5, h⟩
    · exact ⟨k + 6, by omega, by omega, h6, h⟩
    · exact ⟨k + 7, by omega, by omega, h7, h⟩
  · rintro ⟨i, h1, h2, hi, h⟩
    refine ⟨_, ?_, h⟩
    have e : i = k ∨ i = k + 1 ∨ i = k + 2 ∨ i = k + 3 ∨ i = k + 4 ∨ i = k + 5 ∨ i = k + 6 ∨ i = k + 7 := by omega
    rcases e with rfl | rfl | rfl | rfl | rfl | rfl | rfl | rfl <;> simp

/-! ### breaksLine -/
/-- The result says whether some byte hits; the world has at most drawn. -/
def BrkPost (s : ByteArray) (c : Nat) (w : World) (e : Ending) (w' : World) : Prop := ∃ b, e = .returned (.bool b) ∧ (b = true ↔ ∃ i, Hit s c i) ∧ ∃ n, w' = w.drewN n
theorem BrkPost.yes {s : ByteArray} {c : Nat} {w : World} {n : Nat} (h : ∃ i, Hit s c i) : BrkPost s c w (.returned (.bool true)) (w.drewN n) := ⟨true, rfl, ⟨fun _ => h, fun _ => rfl⟩, n, rfl⟩
theorem BrkPost.no {s : ByteArray} {c : Nat} {w : World} {n m : Nat} (h : ∀ j, j < m → ¬ Hit s c j) (hm : s.size ≤ m) : BrkPost s c w (.returned (.bool false)) (w.drewN n) :=
  ⟨false, rfl, ⟨fun h => (by cases h), fun ⟨i, hi⟩ => absurd hi (h i (by have := hi.lt; omega))⟩, n, rfl⟩
theorem not_of_false {T : Bool} {P : Prop} (h : T = true ↔ P) (hf : T = false) : ¬ P := fun hp => by rw [h.2 hp] at hf; cases hf
theorem word_no {s : ByteArray} {c k : Nat} (HN : ∀ j, j < k → ¬ Hit s c j) (h : ¬ ∃ i, k ≤ i ∧ i < k + 8 ∧ Hit s c i) : ∀ j, j < k + 8 → ¬ Hit s c j := by
  intro j hj hit
  by_cases hk : j < k
  · exact HN j hk hit
  · exact h ⟨j, by omega, hj, hit⟩
theorem byte_no {s : ByteArray} {c m : Nat} (HN : ∀ j, j < m → ¬ Hit s c j) (hm : m < s.size) (h : (((((s[m]'hm).toNat : Int) == 13) = false ∧ (((s[m]'hm).toNat : Int) == 10) = false) ∧ (((s[m]'hm).toNat : Int) == (c : Int)) = false)) : ∀ j, j < m + 1 → ¬ Hit s c j := by
  intro j hj hit
  by_cases hk : j < m
  · exact HN j hk hit
  · have e : j = m := by omega
    subst e
    obtain ⟨_, h'⟩ := hit
    simp only [beq_eq_false_iff_ne, ne_eq] at h
    omega
set_option maxRecDepth 20000 in
set_option maxHeartbeats 1000000 in
theorem brk_any (s : ByteArray) (c : Nat) (hs : s.size ≤ 1048576) (hc : c < 256) (w : World) :
    Calls Try.prog 15 #[.string s, .int .u8 c] w fun e w' => BrkPost s c w e w' := by
  go_enter Try.func15, Try.ntmps15
  go_wp2
  go_loopw [5] (fun i wr => ∃ k : Nat, k ≤ s.size ∧ i = .int .i64 k ∧ Hid (∀ j, j < k → ¬ Hit s c j) ∧ ∃ n, wr = w.drewN n) (fun i _ => s.size - (intOf i).toNat)
  case atStart => exact ⟨0, Nat.zero_le _, rfl, fun j hj => absurd hj (by omega), 0, rfl⟩
  case round =>
    obtain ⟨k, hk, rfl, HN, n, rfl⟩ := hrel
    by_cases hlt : k + 8 ≤ s.size
    · have h0 : k < s.size := by omega
      have h1 : k + 1 < s.size := by omega
      have h2 : k + 2 < s.size := by omega
      have h3 : k + 3 < s.size := by omega
      have h4 : k + 4 < s.size := by omega
      have h5 : k + 5 < s.size := by omega
      have h6 : k + 6 < s.size := by omega
      have h7 : k + 7 < s.size := by omega
      have i1 := idx s ((k : Int) + 1) (k + 1) (by omega) h1
      have i2 := idx s ((k : Int) + 2) (k + 2) (by omega) h2
      have i3 := idx s ((k : Int) + 3) (k + 3) (by omega) h3
      have i4 := idx s ((k : Int) + 4) (k + 4) (by omega) h4
      have i5 := idx s ((k : Int) + 5) (k + 5) (by omega) h5
      have i6 := idx s ((k : Int) + 6) (k + 6) (by omega) h6
      have i7 := idx s ((k : Int) + 7) (k + 7) (by omega) h7
      go_wp2
      go_quiet (fail)
      clear i1 i2 i3 i4 i5 i6 i7
      generalize hX : bits .or .u64 (bits .or .u64 (bits .or .u64 (bits .or .u64 (bits .or .u64 (bits .or .u64 (bits .or .u64 (IntKind.u64.wrap ((s[k]'h0).toNat : Int)) (IntKind.u64.wrap (IntKind.u64.wrap ((s[k + 1]'h1).toNat : Int) * 256))) (IntKind.u64.wrap (IntKind.u64.wrap ((s[k + 2]'h2).toNat : Int) * 65536))) (IntKind.u64.wrap (IntKind.u64.wrap ((s[k + 3]'h3).toNat : Int) * 16777216))) (IntKind.u64.wrap (IntKind.u64.wrap ((s[k + 4]'h4).toNat : Int) * 4294967296))) (IntKind.u64.wrap (IntKind.u64.wrap ((s[k + 5]'h5).toNat : Int) * 1099511627776))) (IntKind.u64.wrap (IntKind.u64.wrap ((s[k + 6]'h6).toNat : Int) * 281474976710656))) (IntKind.u64.wrap (IntKind.u64.wrap ((s[k + 7]'h7).toNat : Int) * 72057594037927936)) = X
      have HX : Hid (bits .or .u64 (bits .or .u64 (bits .or .u64 (bits .or .u64 (bits .or .u64 (bits .or .u64 (bits .or .u64 (IntKind.u64.wrap ((s[k]'h0).toNat : Int)) (IntKind.u64.wrap (IntKind.u64.wrap ((s[k + 1]'h1).toNat : Int) * 256))) (IntKind.u64.wrap (IntKind.u64.wrap ((s[k + 2]'h2).toNat : Int) * 65536))) (IntKind.u64.wrap (IntKind.u64.wrap ((s[k + 3]'h3).toNat : Int) * 16777216))) (IntKind.u64.wrap (IntKind.u64.wrap ((s[k + 4]'h4).toNat : Int) * 4294967296))) (IntKind.u64.wrap (IntKind.u64.wrap ((s[k + 5]'h5).toNat : Int) * 1099511627776))) (IntKind.u64.wrap (IntKind.u64.wrap ((s[k + 6]'h6).toNat : Int) * 281474976710656))) (IntKind.u64.wrap (IntKind.u64.wrap ((s[k + 7]'h7).toNat : Int) * 72057594037927936)) = X) := hX
      clear hX
      have HT := test_iff [(s[k]'h0).toNat, (s[k + 1]'h1).toNat, (s[k + 2]'h2).toNat, (s[k + 3]'h3).toNat, (s[k + 4]'h4).toNat, (s[k + 5]'h5).toNat, (s[k + 6]'h6).toNat, (s[k + 7]'h7).toNat] (by intro b hb; simp only [List.mem_cons, List.not_mem_nil, or_false] at hb; rcases hb with rfl | rfl | rfl | rfl | rfl | rfl | rfl | rfl <;> exact lt8 _) rfl X (HX.out.symm.trans (word_num _ _ _ _ _ _ _ _ (lt8 _) (lt8 _) (lt8 _) (lt8 _) (lt8 _) (lt8 _) (lt8 _) (lt8 _))) c hc
      rw [word_hit s c k h0 h1 h2 h3 h4 h5 h6 h7] at HT
      have HT' := fun hh => HT.1 hh
      have HU' := fun hf => not_of_false HT hf
      clear HT
      go_wp2
      · go_ret
        obtain ⟨i, _, _, hi⟩ := HT' (by assumption)
        exact BrkPost.yes ⟨i, hi⟩
      · go_roundw
        case rel => exact ⟨k + 8, by omega, by go_num, word_no HN.out (HU' (by assumption)), _, rfl⟩
        case measure => simp [intOf]; omega
    · go_wp2
      go_loop [5] (fun i => ∃ m : Nat, m ≤ s.size ∧ i = .int .i64 m ∧ Hid (∀ j, j < m → ¬ Hit s c j)) (fun i => s.size - (intOf i).toNat)
      case atStart => exact ⟨k, hk, rfl, HN⟩
      case round =>
        obtain ⟨m, hm, rfl, HM⟩ := hrel
        by_cases hlt2 : m < s.size
        · go_wp2
          · go_ret
            exact BrkPost.yes ⟨m, hlt2, by omega⟩
          · go_ret
            exact BrkPost.yes ⟨m, hlt2, by omega⟩
          · go_ret
            have h3 : ((((s[m]'hlt2).toNat : Int) == 13) = true ∨ (((s[m]'hlt2).toNat : Int) == 10) = true) ∨ (((s[m]'hlt2).toNat : Int) == (c : Int)) = true := by assumption
            simp only [beq_iff_eq] at h3
            exact BrkPost.yes ⟨m, hlt2, by omega⟩
          · go_round
            case rel => exact ⟨m + 1, by omega, by go_num, byte_no HM.out hlt2 (by assumption)⟩
            case measure => simp [intOf]; omega
        · go_wp2
          go_ret
          exact BrkPost.no HM.out (by omega)

end Go.Proofs.Qxb6619582a
