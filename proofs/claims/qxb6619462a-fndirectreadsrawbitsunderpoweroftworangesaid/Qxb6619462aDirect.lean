import Derived.Test.Qxb6619462aBits
namespace Go.Proofs.Qxb6619462a
open Go.RowKit
set_option linter.unusedVariables false

/-! ### THE DECODER AS PLAIN DATA -/
structure St where
  at_ : Int
  rng : Int
  code : Int
  ov : Bool
def St.ok (s : St) : Prop := 0 ≤ s.at_ ∧ 0 ≤ s.rng ∧ s.rng < 4294967296 ∧ 0 ≤ s.code ∧ s.code < 4294967296
/-- normalize. -/
def normS (len : Nat) (f : Nat → Int) (s : St) : St :=
  if 16777216 ≤ s.rng then s
  else if s.at_ < len then ⟨s.at_ + 1, s.rng * 256, s.code * 256 % 4294967296 + f s.at_.toNat, s.ov⟩
  else ⟨s.at_, s.rng * 256, s.code * 256 % 4294967296, true⟩
theorem normS_ok {len : Nat} {f : Nat → Int} (hf : ∀ j, 0 ≤ f j ∧ f j ≤ 255) {s : St} (h : s.ok) : (normS len f s).ok := by
  obtain ⟨h1, h2, h3, h4, h5⟩ := h
  unfold normS
  have := hf s.at_.toNat
  split
  · exact ⟨h1, h2, h3, h4, h5⟩
  · split <;> (unfold St.ok; simp only []; omega)
/-- The decoder in block b is in state s. -/
def DecS (w : World) (b : Nat) (v : Value) (s : St) : Prop := Dec w b v s.at_ s.rng s.code s.ov
def NormS (w : World) (b : Nat) (v : Value) (s : St) : Prop := Norm w b v s.at_ s.rng s.code s.ov

/-- The bytes that the decoder in block b reads: the slice v, whose bytes are f 0 .. f (len - 1). -/
def Src (w : World) (b : Nat) (v : Value) (len : Nat) (f : Nat → Int) : Prop :=
  (v = .slice none 0 0 ∧ len = 0) ∨ ∃ g, v = .slice (some ⟨g, 0, none⟩) len len ∧ g ≠ b ∧ Byts w g 0 len f
theorem Src.kept {w w' : World} {b : Nat} {v : Value} {len : Nat} {f : Nat → Int} {row : Option Nat} (h : Src w b v len f) (k : w.grownBy w' row) (hr : row = none ∨ row = some b) : Src w' b v len f := by
  rcases h with h | ⟨g, hv, hg, hB⟩
  · exact .inl h
  · exact .inr ⟨g, hv, hg, hB.kept k (by rcases hr with rfl | rfl <;> simp; exact hg)⟩

theorem norm_any {w : World} {b : Nat} {v : Value} {len : Nat} {f : Nat → Int} {s : St} (hf : ∀ j, 0 ≤ f j ∧ f j ≤ 255) (hl : len ≤ 1048576) (ok : s.ok) (D : DecS w b v s) (S : Src w b v len f) : NormS w b v (normS len f s) := by
  obtain ⟨h1, h2, h3, h4, h5⟩ := ok
  obtain ⟨at_, rng, code, ov⟩ := s
  simp only at h1 h2 h3 h4 h5
  unfold NormS normS
  simp only []
  by_cases hr : 16777216 ≤ rng
  · rw [if_pos hr]
    exact norm_hi w b v at_ rng code ov D hr
  · rw [if_neg hr]
    by_cases ha : at_ < len
    · rw [if_pos ha]
      obtain ⟨n, rfl⟩ := Int.eq_ofNat_of_zero_le h1
      rcases S with ⟨rfl, rfl⟩ | ⟨g, rfl, hg, hB⟩
      · omega
      · exact norm_in w b g 0 len len n rng code (f n) ov D h2 (by omega) h4 h5 (by omega) hl (hB n (by omega)) hg (hf n).1 (hf n).2
    · rw [if_neg ha]
      rcases S with ⟨rfl, rfl⟩ | ⟨g, rfl, hg, hB⟩
      · exact norm_out w b _ _ _ at_ rng code ov D h2 (by omega) h4 h5 (by omega)
      · exact norm_out w b _ _ _ at_ rng code ov D h2 (by omega) h4 h5 (by omega)

/-! ### direct -/
/-- One round of direct, behind normalize: the bit, the state. -/
def halfS (s : St) : St := if s.rng / 2 ≤ s.code then ⟨s.at_, s.rng / 2, s.code - s.rng / 2, s.ov⟩ else ⟨s.at_, s.rng / 2, s.code, s.ov⟩
def bitS (s : St) : Int := if s.rng / 2 ≤ s.code then 1 else 0
def dirS (len : Nat) (f : Nat → Int) (s : St) : Nat → St
  | 0 => s
  | n + 1 => halfS (normS len f (dirS len f s n))
def dirV (len : Nat) (f : Nat → Int) (s : St) : Nat → Int
  | 0 => 0
  | n + 1 => dirV len f s n * 2 % 4294967296 + bitS (normS len f (dirS len f s n))
theorem halfS_ok {s : St} (h : s.ok) : (halfS s).ok := by
  obtain ⟨h1, h2, h3, h4, h5⟩ := h
  unfold halfS
  split <;> (unfold St.ok; simp only []; omega)
theorem dirS_ok {len : Nat} {f : Nat → Int} (hf : ∀ j, 0 ≤ f j ∧ f j ≤ 255) {s : St} (h : s.ok) (n : Nat) : (dirS len f s n).ok := by
  induction n with
  | zero => exact h
  | succ n ih => exact halfS_ok (normS_ok hf ih)
theorem dirV_bd (len : Nat) (f : Nat → Int) (s : St) (n : Nat) : 0 ≤ dirV len f s n ∧ dirV len f s n < 4294967296 := by
  cases n with
  | zero => unfold dirV; omega
  | succ n => unfold dirV bitS; split <;> omega

theorem or_one (x y : Int) (h0 : 0 ≤ x) (h1 : x < 4294967296) (hx : x % 2 = 0) (hy : 0 ≤ y) (hy1 : y ≤ 1) : bits .or .u32 x y = x + y :=
  bits_join .u32 32 (by decide) wraps_u32 1 x y h0 (by omega) (by omega) hy (by omega) (by omega)

set_option maxRecDepth 20000 in
set_option maxHeartbeats 1000000 in
theorem direct_any (w : World) (b : Nat) (v : Value) (len : Nat) (f : Nat → Int) (s : St) (n : Int) (hf : ∀ j, 0 ≤ f j ∧ f j ≤ 255) (hl : len ≤ 1048576) (ok : s.ok) (D : DecS w b v s) (S : Src w b v len f) (hn : n ≤ 65536) :
    Calls Try.prog 21 #[.pointer (some ⟨b, 0, none⟩), .int .i64 n] w fun e w' => e = .returned (.int .u32 (dirV len f s n.toNat)) ∧ DecS w' b v (dirS len f s n.toNat) ∧ w.grownBy w' (some b) := by
  have HF : Hid (∀ j, 0 ≤ f j ∧ f j ≤ 255) := hf
  clear hf
  go_enter Try.func21, Try.ntmps21
  go_wp2_with fail
  go_loopw [5, 8] (fun x i wr => ∃ k : Nat, k ≤ n.toNat ∧ i = .int .i64 k ∧ x = .int .u32 (dirV len f s k) ∧ DecS wr b v (dirS len f s k) ∧ w.grownBy wr (some b)) (fun _ i _ => n.toNat - (intOf i).toNat)
  case atStart => exact ⟨0, Nat.zero_le _, rfl, rfl, D, World.grownBy.refl _ _⟩
  case round =>
    obtain ⟨k, hk, rfl, rfl, Dk, gk⟩ := hrel
    have vb := dirV_bd len f s k
    have okn := normS_ok (len := len) HF.out (dirS_ok (len := len) HF.out ok k)
    have HN := norm_any (len := len) HF.out hl (dirS_ok HF.out ok k) Dk (S.kept gk (.inr rfl))
    have eV : Hid (dirV len f s (k + 1) = dirV len f s k * 2 % 4294967296 + bitS (normS len f (dirS len f s k))) := rfl
    have eS : Hid (dirS len f s (k + 1) = halfS (normS len f (dirS len f s k))) := rfl
    generalize normS len f (dirS len f s k) = t at okn HN eV eS
    obtain ⟨at_, rng, code, ov⟩ := t
    obtain ⟨o1, o2, o3, o4, o5⟩ := okn
    simp only at o1 o2 o3 o4 o5
    by_cases hlt : (k : Int) < n
    · have orr := or_one (dirV len f s k * 2 % 4294967296)
      by_cases hc : rng / 2 ≤ code
      · have o11 := orr 1 (by omega) (by omega) (by omega) (by omega) (by omega)
        clear orr
        go_wp2_with fail
        refine (Norm.out HN).mono ?_
        rintro e w1 ⟨rfl, D1, g1⟩
        simp only at D1
        have D2 := D1
        obtain ⟨c0, c1, c2, c3, c4, f1, f2, f3, f4⟩ := D1
        go_wp2
        go_quiet (fail)
        go_wp2
        go_region
        go_wp2
        go_roundw
        case rel =>
          refine ⟨k + 1, by omega, by go_num, ?_, ?_, ?_⟩
          · rw [eV.out]; unfold bitS; rw [if_pos (by show rng / 2 ≤ code; omega)]
          · rw [eS.out]; unfold halfS DecS; rw [if_pos (by show rng / 2 ≤ code; omega)]
            exact ((D2.set2 _).drewN _).set3 _
          · exact grown_set (grown_dN (grown_set (grown_trans gk g1)))
        case measure => simp [intOf]; omega
      · have o10 := orr 0 (by omega) (by omega) (by omega) (by omega) (by omega)
        clear orr
        go_wp2_with fail
        refine (Norm.out HN).mono ?_
        rintro e w1 ⟨rfl, D1, g1⟩
        simp only at D1
        have D2 := D1
        obtain ⟨c0, c1, c2, c3, c4, f1, f2, f3, f4⟩ := D1
        go_wp2
        go_quiet (fail)
        go_wp2
        go_roundw
        case rel =>
          refine ⟨k + 1, by omega, by go_num, ?_, ?_, ?_⟩
          · rw [eV.out]; unfold bitS; rw [if_neg (by show ¬ rng / 2 ≤ code; omega), Int.add_zero]
          · rw [eS.out]; unfold halfS DecS; rw [if_neg (by show ¬ rng / 2 ≤ code; omega)]
            exact (D2.set2 _).drewN _
          · exact grown_dN (grown_set (grown_trans gk g1))
        case measure => simp [intOf]; omega
    · clear HN eV eS
      go_wp2
      go_ret
      have e : k = n.toNat := by omega
      subst e
      exact ⟨rfl, Dk, gk⟩

set_option maxHeartbeats 400000 in
theorem zzdirect_any (w : World) (b : Nat) (v : Value) (len : Nat) (f : Nat → Int) (s : St) (n : Int) (hf : ∀ j, 0 ≤ f j ∧ f j ≤ 255) (hl : len ≤ 1048576) (ok : s.ok) (D : DecS w b v s) (S : Src w b v len f) (hn : n ≤ 65536) :
    Calls Try.prog 11 #[.pointer (some ⟨b, 0, none⟩), .int .i64 n] w fun e w' => e = .returned (.int .u32 (dirV len f s n.toNat)) ∧ DecS w' b v (dirS len f s n.toNat) ∧ w.grownBy w' (some b) := by
  have H := direct_any w b v len f s n hf hl ok D S hn
  have HH : Hid (Calls Try.prog 21 #[.pointer (some ⟨b, 0, none⟩), .int .i64 n] w fun e w' => e = .returned (.int .u32 (dirV len f s n.toNat)) ∧ DecS w' b v (dirS len f s n.toNat) ∧ w.grownBy w' (some b)) := H
  clear H hf
  go_enter Try.func11, Try.ntmps11
  go_wp2_with fail
  refine Calls.mono HH.out ?_
  rintro e w1 ⟨rfl, D1, g1⟩
  go_wp2
  go_ret
  exact ⟨rfl, D1, g1⟩

/-- What cloneBytes leaves: a slice value v of len bytes f, in memory of its own. -/
def Cloned (w w' : World) (a : Option Addr) (len cap : Nat) (f : Nat → Int) : Prop :=
  w.grownBy w' none ∧ ((a = none ∧ len = 0 ∧ cap = 0) ∨ ∃ g, a = some ⟨g, 0, none⟩ ∧ cap = len ∧ g < w'.heap.size ∧ Byts w' g 0 len f)
theorem Cloned.src {w w' w'' : World} {a : Option Addr} {len cap : Nat} {f : Nat → Int} (h : Cloned w w' a len cap f) (b : Nat) (hb : w'.heap.size ≤ b) (k : w'.grownBy w'' none) : Src w'' b (.slice a len cap) len f := by
  rcases h.2 with ⟨rfl, rfl, rfl⟩ | ⟨g, rfl, rfl, hg, hB⟩
  · exact .inl ⟨rfl, rfl⟩
  · exact .inr ⟨g, rfl, by omega, hB.kept k (by simp)⟩

theorem Cloned.src' {w w' w'' w3 : World} {a : Option Addr} {len cap : Nat} {f : Nat → Int} (h : Cloned w w' a len cap f) (k2 : w''.grownBy w3 (some w'.heap.size)) (k : w'.grownBy w'' none) : Src w3 (w'.heap.size + 1) (.slice a len cap) len f := by
  rcases h.2 with ⟨rfl, rfl, rfl⟩ | ⟨g, rfl, rfl, hg, hB⟩
  · exact .inl ⟨rfl, rfl⟩
  · exact .inr ⟨g, rfl, by omega, (hB.kept k (by simp)).kept k2 (by simp; omega)⟩


/-- cloneBytes at whatever slice of bytes. -/
theorem clone_any (a0 : Option Addr) (len cap0 : Nat) (f : Nat → Int) (w : World) (hl : len ≤ 1048576) (h : (a0 = none ∧ len = 0 ∧ cap0 = 0) ∨ ∃ x, a0 = some x ∧ (0 < len → ∃ b off, x = ⟨b, off, none⟩ ∧ Byts w b off len f)) :
    Calls Try.prog 8 #[.slice a0 len cap0] w fun e w' => ∃ a cap, e = .returned (.slice a len cap) ∧ Cloned w w' a len cap f := by
  rcases h with ⟨rfl, rfl, rfl⟩ | ⟨x, rfl, hx⟩
  · refine (clone_nil w).mono ?_
    rintro e w' ⟨rfl, rfl⟩
    exact ⟨_, _, rfl, World.grownBy.refl _ _, .inl ⟨rfl, rfl, rfl⟩⟩
  · refine (clone_some w x len cap0 f hl hx).mono ?_
    rintro e w' ⟨rfl, g, hB, hs⟩
    exact ⟨_, _, rfl, g, .inr ⟨_, rfl, rfl, hs, hB⟩⟩

end Go.Proofs.Qxb6619462a
