import Derived.Test.Qxb6619582aScan
namespace Go.Proofs.Qxb6619582a
open Go.RowKit
set_option linter.unusedVariables false

theorem ret_bool {b : Bool} (h : b = true) : Ending.returned (.bool b) = .returned (.bool true) := by rw [h]

/-! ### ZZbreaksLine -/
set_option maxHeartbeats 400000 in
theorem zzbrk_any (s : ByteArray) (c : Nat) (hs : s.size ≤ 1048576) (hc : c < 256) (w : World) :
    Calls Try.prog 7 #[.string s, .int .u8 c] w fun e w' => BrkPost s c w e w' := by
  go_enter Try.func7, Try.ntmps7
  go_wp2_with fail
  refine (brk_any s c hs hc w).mono ?_
  rintro e w' ⟨b, rfl, hb, n, rfl⟩
  have HB : Hid (b = true ↔ ∃ i, Hit s c i) := hb
  clear hb
  go_wp2
  go_ret
  exact ⟨b, rfl, HB.out, n, rfl⟩

/-! ### zzFirstLineEnd -/
def FirstPost (s : ByteArray) (c : Nat) (w : World) (e : Ending) (w' : World) : Prop := ∃ i : Nat, e = .returned (.int .i64 i) ∧ i ≤ s.size ∧ (∀ j, j < i → ¬ Hit s c j) ∧ (i < s.size → Hit s c i) ∧ w = w'

set_option maxRecDepth 20000 in
set_option maxHeartbeats 400000 in
theorem first_any (s : ByteArray) (c : Nat) (hs : s.size ≤ 1048576) (hc : c < 256) (w : World) :
    Calls Try.prog 8 #[.string s, .int .u8 c] w fun e w' => FirstPost s c w e w' := by
  go_enter Try.func8, Try.ntmps8
  go_wp2
  go_loop [5] (fun i => ∃ m : Nat, m ≤ s.size ∧ i = .int .i64 m ∧ Hid (∀ j, j < m → ¬ Hit s c j)) (fun i => s.size - (intOf i).toNat)
  case atStart => exact ⟨0, Nat.zero_le _, rfl, fun j hj => absurd hj (by omega)⟩
  case round =>
    obtain ⟨m, hm, rfl, HM⟩ := hrel
    by_cases hlt2 : m < s.size
    · go_wp2
      · go_ret
        exact ⟨m, rfl, hm, HM.out, fun _ => ⟨hlt2, by omega⟩, rfl⟩
      · go_ret
        exact ⟨m, rfl, hm, HM.out, fun _ => ⟨hlt2, by omega⟩, rfl⟩
      · go_ret
        have h3 : ((((s[m]'hlt2).toNat : Int) == 13) = true ∨ (((s[m]'hlt2).toNat : Int) == 10) = true) ∨ (((s[m]'hlt2).toNat : Int) == (c : Int)) = true := by assumption
        simp only [beq_iff_eq] at h3
        exact ⟨m, rfl, hm, HM.out, fun _ => ⟨hlt2, by omega⟩, rfl⟩
      · go_round
        case rel => exact ⟨m + 1, by omega, by go_num, byte_no HM.out hlt2 (by assumption)⟩
        case measure => simp [intOf]; omega
    · go_wp2
      go_ret
      exact ⟨s.size, rfl, Nat.le_refl _, fun j hj => HM.out j (by omega), fun h => absurd h (by omega), rfl⟩

/-! ### zzLastLineEnd -/
def LastPost (s : ByteArray) (c : Nat) (w : World) (e : Ending) (w' : World) : Prop := ∃ i : Int, e = .returned (.int .i64 i) ∧ -1 ≤ i ∧ i < s.size ∧ (∀ j : Nat, i < j → ¬ Hit s c j) ∧ (0 ≤ i → Hit s c i.toNat) ∧ w = w'
theorem byte_no_back {s : ByteArray} {c m : Nat} (HN : ∀ j, m < j → ¬ Hit s c j) (hm : m < s.size) (h : (((((s[m]'hm).toNat : Int) == 13) = false ∧ (((s[m]'hm).toNat : Int) == 10) = false) ∧ (((s[m]'hm).toNat : Int) == (c : Int)) = false)) : ∀ j, m ≤ j → ¬ Hit s c j := by
  intro j hj hit
  by_cases hk : m < j
  · exact HN j hk hit
  · have e : j = m := by omega
    subst e
    obtain ⟨_, h'⟩ := hit
    simp only [beq_eq_false_iff_ne, ne_eq] at h
    omega

set_option maxRecDepth 20000 in
set_option maxHeartbeats 400000 in
theorem last_any (s : ByteArray) (c : Nat) (hs : s.size ≤ 1048576) (hc : c < 256) (w : World) :
    Calls Try.prog 10 #[.string s, .int .u8 c] w fun e w' => LastPost s c w e w' := by
  go_enter Try.func10, Try.ntmps10
  go_wp2
  go_loop [5] (fun i => ∃ q : Int, -1 ≤ q ∧ q < s.size ∧ i = .int .i64 q ∧ Hid (∀ j : Nat, q < j → ¬ Hit s c j)) (fun i => (intOf i + 1).toNat)
  case atStart => exact ⟨(s.size : Int) - 1, by omega, by omega, rfl, fun j hj hh => absurd hh.lt (by omega)⟩
  case round =>
    obtain ⟨q, hq, hq2, rfl, HM⟩ := hrel
    by_cases hlt2 : 0 ≤ q
    · obtain ⟨m, rfl⟩ := Int.eq_ofNat_of_zero_le hlt2
      have hm : m < s.size := by omega
      have HM' : Hid (∀ j : Nat, m < j → ¬ Hit s c j) := fun j hj => HM.out j (by omega)
      clear HM
      go_wp2
      · go_ret
        exact ⟨m, rfl, by omega, by omega, fun j hj => HM'.out j (by omega), fun _ => ⟨hm, by simp only [Int.toNat_natCast]; omega⟩, rfl⟩
      · go_ret
        exact ⟨m, rfl, by omega, by omega, fun j hj => HM'.out j (by omega), fun _ => ⟨hm, by simp only [Int.toNat_natCast]; omega⟩, rfl⟩
      · go_ret
        have h3 : ((((s[m]'hm).toNat : Int) == 13) = true ∨ (((s[m]'hm).toNat : Int) == 10) = true) ∨ (((s[m]'hm).toNat : Int) == (c : Int)) = true := by assumption
        simp only [beq_iff_eq] at h3
        exact ⟨m, rfl, by omega, by omega, fun j hj => HM'.out j (by omega), fun _ => ⟨hm, by simp only [Int.toNat_natCast]; omega⟩, rfl⟩
      · go_round
        case rel => exact ⟨(m : Int) - 1, by omega, by omega, by go_num, fun j hj => byte_no_back HM'.out hm (by assumption) j (by omega)⟩
        case measure => simp [intOf]
    · have e : q = -1 := by omega
      subst e
      go_wp2
      go_ret
      exact ⟨-1, rfl, by omega, by omega, HM.out, fun h => absurd h (by omega), rfl⟩

end Go.Proofs.Qxb6619582a
