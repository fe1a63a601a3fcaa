import Derived.Test.Qxb6619582aRows
import Derived.WalkKit
import Derived.WalkSpells
import Derived.WalkLawsBesides
import Derived.ProofKit
import Derived.Below
import Derived.Deep.QuietTactic
import Derived.BigQuiet
import Derived.Lib.ConvBytes
namespace Go.Proofs.Qxb6619582a.Chunk
open Go.RowKit
set_option linter.unusedVariables false

/-! ### THE PLAIN LAW -/
def low (k : Nat) : Nat := [99, 104, 117, 110, 107, 101, 100].getD k 0
def up (k : Nat) : Nat := [67, 72, 85, 78, 75, 69, 68].getD k 0
/-- x is letter k of 'chunked', small or capital. -/
def Ltr (x k : Nat) : Prop := x = low k ∨ x = up k
/-- s spells 'chunked', in any case of its letters. -/
def Sp (s : ByteArray) : Prop := s.size = 7 ∧ ∀ (k : Nat) (h : k < s.size), Ltr (s[k]'h).toNat k

theorem low_up (k : Nat) (h : k < 7) : low k = up k + 32 ∧ 97 ≤ low k ∧ low k ≤ 122 := by
  have e : k = 0 ∨ k = 1 ∨ k = 2 ∨ k = 3 ∨ k = 4 ∨ k = 5 ∨ k = 6 := by omega
  rcases e with rfl | rfl | rfl | rfl | rfl | rfl | rfl <;> decide
theorem or_low : ∀ k, k < 7 → ∀ x, x < 256 → (x ||| 32 = low k ↔ x = low k ∨ x = up k) := by decide +kernel
theorem or_iff (x k : Nat) (hx : x < 256) (hk : k < 7) : (bits .or .u8 (x : Int) 32 != (low k : Int)) = true ↔ ¬ Ltr x k := by
  have e : (32 : Int) = ((32 : Nat) : Int) := rfl
  rw [e, u8_or_nat x 32 hx (by decide)]
  unfold Ltr
  rw [← or_low k hk x hx]
  simp only [bne_iff_ne, ne_eq]
  omega
theorem lt8 (x : UInt8) : x.toNat < 256 := x.toNat_lt

theorem idx (s : ByteArray) (i : Int) (j : Nat) (e : i = (j : Int)) (h : j < s.size) (w : World) : (Instr.index 9 (.string s) (.int .i64 i)).run Try.prog w = .ok (.int .u8 ((s[j]'h).toNat : Nat)) w := by
  subst e
  rw [run_index_string _ _ _ _ _ Try.underlying9, dif_pos ⟨by omega, by omega⟩]
  simp
theorem idx_low (k : Nat) (h : k < 7) (w : World) : (Instr.index 9 (.string { data := #[99, 104, 117, 110, 107, 101, 100] }) (.int .i64 (k : Int))).run Try.prog w = .ok (.int .u8 (low k : Int)) w := by
  rw [idx { data := #[99, 104, 117, 110, 107, 101, 100] } (k : Int) k rfl h w]
  have e : k = 0 ∨ k = 1 ∨ k = 2 ∨ k = 3 ∨ k = 4 ∨ k = 5 ∨ k = 6 := by omega
  rcases e with rfl | rfl | rfl | rfl | rfl | rfl | rfl <;> rfl
theorem idx_up (k : Nat) (h : k < 7) (w : World) : (Instr.index 9 (.string { data := #[67, 72, 85, 78, 75, 69, 68] }) (.int .i64 (k : Int))).run Try.prog w = .ok (.int .u8 (up k : Int)) w := by
  rw [idx { data := #[67, 72, 85, 78, 75, 69, 68] } (k : Int) k rfl h w]
  have e : k = 0 ∨ k = 1 ∨ k = 2 ∨ k = 3 ∨ k = 4 ∨ k = 5 ∨ k = 6 := by omega
  rcases e with rfl | rfl | rfl | rfl | rfl | rfl | rfl <;> rfl

def Drew (w w' : World) : Prop := ∃ n, w' = w.drewN n
def SpPost (s : ByteArray) (w : World) (e : Ending) (w' : World) : Prop := ∃ b, e = .returned (.bool b) ∧ (b = true ↔ Sp s) ∧ Drew w w'
theorem Drew.one (w : World) (n : Nat) : Drew w (w.drewN n) := ⟨n, rfl⟩
theorem Drew.two (w : World) (n m : Nat) : Drew w ((w.drewN n).drewN m) := ⟨n + m, by rw [World.drewN_drewN]⟩
theorem SpPost.no {s : ByteArray} {w w' : World} (h : ¬ Sp s) (d : Drew w w') : SpPost s w (.returned (.bool false)) w' := ⟨false, rfl, ⟨fun e => (by cases e), fun e => absurd e h⟩, d⟩
theorem SpPost.yes {s : ByteArray} {w w' : World} (h : Sp s) (d : Drew w w') : SpPost s w (.returned (.bool true)) w' := ⟨true, rfl, ⟨fun _ => h, fun _ => rfl⟩, d⟩

/-! ### isChunked -/
set_option maxRecDepth 20000 in
set_option maxHeartbeats 1000000 in
theorem chunked_any (s : ByteArray) (hs : s.size ≤ 1048576) (w : World) : Calls Try.prog 16 #[.string s] w fun e w' => SpPost s w e w' := by
  by_cases h7 : s.size = 7
  · have H7 : Hid (s.size = 7) := h7
    have h7a : s.size ≤ 7 := by omega
    have h7b : 7 ≤ s.size := by omega
    have h7c : ((s.size : Int) != 7) = false := by simp; omega
    clear h7
    go_enter Try.func16, Try.ntmps16
    go_wp2
    go_loopw [7] (fun i wr => ∃ k n : Nat, k ≤ 7 ∧ i = .int .i64 k ∧ wr = w.drewN n ∧ Hid (∀ (j : Nat) (h : j < s.size), j < k → Ltr (s[j]'h).toNat j)) (fun i _ => 7 - (intOf i).toNat)
    case atStart => exact ⟨0, 0, Nat.zero_le _, rfl, rfl, fun j _ hj => absurd hj (by omega)⟩
    case round =>
      obtain ⟨k, n, hk, rfl, rfl, HK⟩ := hrel
      by_cases hlt : k < 7
      · have hks : k < s.size := by omega
        have i1 := idx s (k : Int) k rfl hks
        have i2 := idx_low k hlt
        by_cases hL : Ltr (s[k]'hks).toNat k
        · have ht : (bits .or .u8 ((s[k]'hks).toNat : Int) 32 != (low k : Int)) = false := by
            have := or_iff (s[k]'hks).toNat k (lt8 _) hlt
            cases hb : (bits .or .u8 ((s[k]'hks).toNat : Int) 32 != (low k : Int)) with
            | false => rfl
            | true => exact absurd hL (this.1 hb)
          have HL : Hid (Ltr (s[k]'hks).toNat k) := hL
          clear hL
          go_wp2
          go_quiet (fail)
          go_wp2
          go_roundw
          case rel => 
            refine ⟨k + 1, _, by omega, by go_num, rfl, fun j hj hjk => ?_⟩
            by_cases e : j < k
            · exact HK.out j hj e
            · have e : j = k := by omega
              subst e
              exact HL.out
          case measure => simp [intOf]; omega
        · have ht : (bits .or .u8 ((s[k]'hks).toNat : Int) 32 != (low k : Int)) = true := (or_iff (s[k]'hks).toNat k (lt8 _) hlt).2 hL
          have HL : Hid (¬ Ltr (s[k]'hks).toNat k) := hL
          clear hL
          go_wp2
          go_quiet (fail)
          go_wp2
          go_ret
          exact SpPost.no (fun h => HL.out (h.2 k hks)) (by first | exact Drew.two _ _ _ | exact Drew.one _ _)
      · go_wp2
        go_ret
        exact SpPost.yes ⟨H7.out, fun j hj => HK.out j hj (by omega)⟩ (Drew.one _ _)
  · have h7c : ((s.size : Int) != 7) = true := by simp; omega
    go_enter Try.func16, Try.ntmps16
    go_wp2
    go_ret
    exact SpPost.no (fun h => h7 h.1) (Drew.one _ 0)

set_option maxHeartbeats 400000 in
theorem zzchunked_any (s : ByteArray) (hs : s.size ≤ 1048576) (w : World) : Calls Try.prog 13 #[.string s] w fun e w' => SpPost s w e w' := by
  go_enter Try.func13, Try.ntmps13
  go_wp2_with fail
  refine (chunked_any s hs w).mono ?_
  rintro e w' ⟨b, rfl, hb, d⟩
  have HB : Hid (b = true ↔ Sp s) := hb
  clear hb
  go_wp2
  go_ret
  exact ⟨b, rfl, HB.out, d⟩

/-! ### zzIsSpelledChunked -/
set_option maxRecDepth 20000 in
set_option maxHeartbeats 1000000 in
theorem spelled_any (s : ByteArray) (hs : s.size ≤ 1048576) (w : World) : Calls Try.prog 12 #[.string s] w fun e w' => SpPost s w e w' := by
  by_cases h7 : s.size = 7
  · have H7 : Hid (s.size = 7) := h7
    have h7a : s.size ≤ 7 := by omega
    have h7b : 7 ≤ s.size := by omega
    have h7c : ((s.size : Int) != 7) = false := by simp; omega
    clear h7
    go_enter Try.func12, Try.ntmps12
    go_wp2
    go_loopw [3] (fun i wr => ∃ k n : Nat, k ≤ 7 ∧ i = .int .i64 k ∧ wr = w.drewN n ∧ Hid (∀ (j : Nat) (h : j < s.size), j < k → Ltr (s[j]'h).toNat j)) (fun i _ => 7 - (intOf i).toNat)
    case atStart => exact ⟨0, 0, Nat.zero_le _, rfl, rfl, fun j _ hj => absurd hj (by omega)⟩
    case round =>
      obtain ⟨k, n, hk, rfl, rfl, HK⟩ := hrel
      by_cases hlt : k < 7
      · have hks : k < s.size := by omega
        have i1 := idx s (k : Int) k rfl hks
        have i2 := idx_low k hlt
        have i3 := idx_up k hlt
        have step : ∀ x, x = (s[k]'hks).toNat → Ltr x k → Hid (∀ (j : Nat) (h : j < s.size), j < k + 1 → Ltr (s[j]'h).toNat j) := by
          intro x hx hL j hj hjk
          by_cases e : j < k
          · exact HK.out j hj e
          · have e : j = k := by omega
            subst e
            rw [← hx]
            exact hL
        by_cases e1 : (s[k]'hks).toNat = low k
        · have t1 : (((s[k]'hks).toNat : Int) != (low k : Int)) = false := by simp; omega
          have S1 := step _ rfl (.inl e1)
          clear step e1
          go_wp2
          go_quiet (fail)
          go_wp2
          go_roundw
          case rel => exact ⟨k + 1, _, by omega, by go_num, rfl, S1⟩
          case measure => simp [intOf]; omega
        · have t1 : (((s[k]'hks).toNat : Int) != (low k : Int)) = true := by simp; omega
          by_cases e2 : (s[k]'hks).toNat = up k
          · have t2 : (((s[k]'hks).toNat : Int) != (up k : Int)) = false := by simp; omega
            have S1 := step _ rfl (.inr e2)
            clear step e1 e2
            go_wp2
            go_quiet (fail)
            go_wp2
            go_roundw
            case rel => exact ⟨k + 1, _, by omega, by go_num, rfl, S1⟩
            case measure => simp [intOf]; omega
          · have t2 : (((s[k]'hks).toNat : Int) != (up k : Int)) = true := by simp; omega
            have HL : Hid (¬ Ltr (s[k]'hks).toNat k) := fun h => h.elim e1 e2
            clear step e1 e2
            go_wp2
            go_quiet (fail)
            go_wp2
            go_ret
            exact SpPost.no (fun h => HL.out (h.2 k hks)) (by first | exact Drew.two _ _ _ | exact Drew.one _ _)
      · go_wp2
        go_ret
        exact SpPost.yes ⟨H7.out, fun j hj => HK.out j hj (by omega)⟩ (Drew.one _ _)
  · have h7c : ((s.size : Int) != 7) = true := by simp; omega
    go_enter Try.func12, Try.ntmps12
    go_wp2
    go_ret
    exact SpPost.no (fun h => h7 h.1) (Drew.one _ 0)

/-! ### zzCasePartner, AT A LETTER -/
theorem partner_low (x : Nat) (h1 : 97 ≤ x) (h2 : x ≤ 122) (w : World) : Calls Try.prog 14 #[.int .u8 x] w fun e w' => e = .returned (.int .u8 ((x - 32 : Nat) : Int)) ∧ w = w' := by
  go_enter Try.func14, Try.ntmps14
  go_wp2
  go_ret
  exact ⟨by have e : ((x - 32 : Nat) : Int) = (x : Int) - 32 := by omega
            rw [e]
            rfl, rfl⟩
theorem partner_up (x : Nat) (h1 : 65 ≤ x) (h2 : x ≤ 90) (w : World) : Calls Try.prog 14 #[.int .u8 x] w fun e w' => e = .returned (.int .u8 ((x + 32 : Nat) : Int)) ∧ w = w' := by
  go_enter Try.func14, Try.ntmps14
  go_wp2
  go_ret
  exact ⟨rfl, rfl⟩

end Go.Proofs.Qxb6619582a.Chunk
