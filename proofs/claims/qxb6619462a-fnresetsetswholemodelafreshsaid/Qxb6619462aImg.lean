import Derived.Test.Qxb6619462aDec
namespace Go.Proofs.Qxb6619462a.Reset
open Go.RowKit
set_option linter.unusedVariables false

/-! ### A MODEL IN MEMORY: block B holds 14144 cells: nine int's, then uint16's -/
def cv (i : Nat) (n : Int) : Value := if i < 9 then .int .i64 n else .int .u16 n
def upd (c : Nat → Int) (i : Nat) (x : Int) : Nat → Int := fun j => if j = i then x else c j
def Img (w : World) (B : Nat) (T : TypeId) (c : Nat → Int) : Prop :=
  ∃ cs : Array Value, w.heap[B]? = some (.cells cs T (0, 0)) ∧ cs.size = 14144 ∧ ∀ i, i < 14144 → cs[i]? = some (cv i (c i))
theorem Img.lt {w : World} {B : Nat} {T : TypeId} {c : Nat → Int} (h : Img w B T c) : B < w.heap.size := by
  obtain ⟨cs, hg, _⟩ := h
  exact (Array.getElem?_eq_some_iff.1 hg).1
theorem Img.cellU {w : World} {B : Nat} {T : TypeId} {c : Nat → Int} (h : Img w B T c) (i : Nat) (h9 : 9 ≤ i) (hi : i < 14144) : w.cell? ⟨B, i, none⟩ = some (.int .u16 (c i)) := by
  obtain ⟨cs, hg, hs, hc⟩ := h
  rw [cell_of_row w B i cs T (0, 0) hg, hc i hi, cv, if_neg (by omega)]
theorem Img.cellH {w : World} {B : Nat} {T : TypeId} {c : Nat → Int} (h : Img w B T c) (i : Nat) (h9 : i < 9) : w.cell? ⟨B, i, none⟩ = some (.int .i64 (c i)) := by
  obtain ⟨cs, hg, hs, hc⟩ := h
  rw [cell_of_row w B i cs T (0, 0) hg, hc i (by omega), cv, if_pos h9]
theorem Img.frozen {w : World} {B : Nat} {T : TypeId} {c : Nat → Int} (h : Img w B T c) (i : Nat) : w.frozen? ⟨B, i, none⟩ = false := by
  obtain ⟨cs, hg, hs, hc⟩ := h
  exact frozen_of_row w B i cs T hg
theorem Img.kept {w w' : World} {B : Nat} {T : TypeId} {c : Nat → Int} {row : Option Nat} (h : Img w B T c) (g : w.grownBy w' row) (hn : some B ≠ row) : Img w' B T c := by
  have hl := h.lt
  obtain ⟨cs, hg, r⟩ := h
  exact ⟨cs, (g.block B hl hn).trans hg, r⟩
theorem Img.set {w : World} {B : Nat} {T : TypeId} {c : Nat → Int} (h : Img w B T c) (i : Nat) (hi : i < 14144) (x : Int) (v : Value) (hv : v = cv i x) : Img (w.setCell ⟨B, i, none⟩ v) B T (upd c i x) := by
  obtain ⟨cs, hg, hs, hc⟩ := h
  refine ⟨cs.setIfInBounds i v, heap_setCell_same w B i cs T v hg, by simpa using hs, fun j hj => ?_⟩
  rw [Array.getElem?_setIfInBounds]
  by_cases e : i = j
  · subst e
    rw [if_pos rfl, if_pos (by omega), hv, upd, if_pos rfl]
  · rw [if_neg e, hc j hj, upd, if_neg (fun he => e he.symm)]
theorem Img.setU {w : World} {B : Nat} {T : TypeId} {c : Nat → Int} (h : Img w B T c) (i : Nat) (h9 : 9 ≤ i) (hi : i < 14144) (x : Int) : Img (w.setCell ⟨B, i, none⟩ (.int .u16 x)) B T (upd c i x) :=
  h.set i hi x _ (by rw [cv, if_neg (by omega)])
theorem Img.setH {w : World} {B : Nat} {T : TypeId} {c : Nat → Int} (h : Img w B T c) (i : Nat) (h9 : i < 9) (x : Int) : Img (w.setCell ⟨B, i, none⟩ (.int .i64 x)) B T (upd c i x) :=
  h.set i (by omega) x _ (by rw [cv, if_pos h9])
theorem Img.drewN {w : World} {B : Nat} {T : TypeId} {c : Nat → Int} (h : Img w B T c) (n : Nat) : Img (w.drewN n) B T c := h
theorem Img.drew {w : World} {B : Nat} {T : TypeId} {c : Nat → Int} (h : Img w B T c) : Img w.drew B T c := h

/-- From c to c' nothing has turned but some uint16's, which are now one half. -/
def Up (c c' : Nat → Int) : Prop := ∀ j, c' j = c j ∨ (9 ≤ j ∧ c' j = 1024)
theorem Up.refl (c : Nat → Int) : Up c c := fun j => .inl rfl
theorem Up.trans {a b c : Nat → Int} (h : Up a b) (k : Up b c) : Up a c := fun j => by
  rcases k j with e | e
  · rcases h j with e' | ⟨e1, e2⟩
    · exact .inl (e.trans e')
    · exact .inr ⟨e1, e.trans e2⟩
  · exact .inr e
theorem Up.upd {a c : Nat → Int} (h : Up a c) (i : Nat) (h9 : 9 ≤ i) : Up a (upd c i 1024) := fun j => by
  unfold Reset.upd
  by_cases e : j = i
  · subst e; exact .inr ⟨h9, if_pos rfl⟩
  · rw [if_neg e]; exact h j
/-- The cells lo .. hi - 1 are at one half. -/
def Done (c : Nat → Int) (lo hi : Nat) : Prop := ∀ j, lo ≤ j → j < hi → c j = 1024
theorem Done.up {c c' : Nat → Int} {lo hi : Nat} (h : Done c lo hi) (u : Up c c') : Done c' lo hi := fun j h1 h2 => by
  rcases u j with e | e
  · rw [e]; exact h j h1 h2
  · exact e.2
theorem Done.upd {c : Nat → Int} {lo hi : Nat} (h : Done c lo hi) : Done (upd c hi 1024) lo (hi + 1) := fun j h1 h2 => by
  unfold Reset.upd
  by_cases e : j = hi
  · rw [if_pos e]
  · rw [if_neg e]; exact h j h1 (by omega)

/-! ### fill -/
def FillPost (B : Nat) (T : TypeId) (c : Nat → Int) (lo n : Nat) (w : World) (e : Ending) (w' : World) : Prop :=
  e = .returned (.tuple #[]) ∧ w.grownBy w' (some B) ∧ ∃ c', Img w' B T c' ∧ Up c c' ∧ Done c' lo (lo + n)
set_option maxHeartbeats 400000 in
theorem fill_any (w : World) (B : Nat) (T : TypeId) (c : Nat → Int) (lo n cap : Nat) (I : Img w B T c) (h9 : 9 ≤ lo) (hn : lo + n ≤ 14144) :
    Calls Try.prog 26 #[.slice (some ⟨B, lo, none⟩) n cap] w fun e w' => FillPost B T c lo n w e w' := by
  go_enter Try.func26, Try.ntmps26
  go_wp2
  go_loopw [5] (fun i wr => ∃ k : Nat, k ≤ n ∧ i = .int .i64 k ∧ w.grownBy wr (some B) ∧ ∃ c', Img wr B T c' ∧ Up c c' ∧ Done c' lo (lo + k)) (fun i _ => n - (intOf i).toNat)
  case atStart => exact ⟨0, Nat.zero_le _, rfl, World.grownBy.refl _ _, c, I, Up.refl c, fun j h1 h2 => absurd h2 (by omega)⟩
  case round =>
    obtain ⟨k, hk, rfl, g, c', I', U, D⟩ := hrel
    by_cases hlt : k < n
    · have hc := I'.cellU (lo + k) (by omega) (by omega)
      have hf := I'.frozen (lo + k)
      go_wp2
      go_roundw
      case rel => exact ⟨k + 1, by omega, by go_num, grown_set g, _, I'.setU (lo + k) (by omega) (by omega) 1024, U.upd _ (by omega), D.upd⟩
      case measure => simp [intOf]; omega
    · go_wp2
      go_end0
      have e : k = n := by omega
      subst e
      exact ⟨rfl, g, c', I', U, D⟩

/-! ### zzProbsIn: the nine int's stay -/
def InPost (B : Nat) (T : TypeId) (c : Nat → Int) (w : World) (e : Ending) (w' : World) : Prop :=
  e = .returned (.tuple #[]) ∧ w.grownBy w' (some B) ∧ ∃ c', Img w' B T c' ∧ ∀ j, j < 9 → c' j = c j
set_option maxHeartbeats 400000 in
theorem in_any (w : World) (B S : Nat) (T TS : TypeId) (c d : Nat → Int) (lo so n cap cap' : Nat) (I : Img w B T c) (J : Img w S TS d) (hne : S ≠ B) (h9 : 9 ≤ lo) (hn : lo + n ≤ 14144) (s9 : 9 ≤ so) (sn : so + n ≤ 14144) :
    Calls Try.prog 22 #[.slice (some ⟨B, lo, none⟩) n cap, .slice (some ⟨S, so, none⟩) n cap'] w fun e w' => InPost B T c w e w' := by
  go_enter Try.func22, Try.ntmps22
  go_wp2
  go_loopw [7] (fun i wr => ∃ k : Nat, k ≤ n ∧ i = .int .i64 k ∧ w.grownBy wr (some B) ∧ ∃ c', Img wr B T c' ∧ ∀ j, j < 9 → c' j = c j) (fun i _ => n - (intOf i).toNat)
  case atStart => exact ⟨0, Nat.zero_le _, rfl, World.grownBy.refl _ _, c, I, fun j _ => rfl⟩
  case round =>
    obtain ⟨k, hk, rfl, g, c', I', U⟩ := hrel
    have HU : Hid (∀ j, j < 9 → c' j = c j) := U
    clear U
    by_cases hlt : k < n
    · have hc := I'.cellU (lo + k) (by omega) (by omega)
      have hf := I'.frozen (lo + k)
      have hs := (J.kept g (fun e => hne (Option.some.inj e))).cellU (so + k) (by omega) (by omega)
      go_wp2
      go_roundw
      case rel => exact ⟨k + 1, by omega, by go_num, grown_set g, _, I'.setU (lo + k) (by omega) (by omega) _, fun j hj => by unfold upd; rw [if_neg (by omega)]; exact HU.out j hj⟩
      case measure => simp [intOf]; omega
    · go_wp2
      go_end0
      exact ⟨rfl, g, c', I', HU.out⟩

/-! ### zzProbsOut, from cells that are at one half -/
set_option maxHeartbeats 400000 in
theorem out_any (w : World) (B S : Nat) (T TS : TypeId) (c d : Nat → Int) (lo so n cap cap' : Nat) (I : Img w B T c) (J : Img w S TS d) (hne : S ≠ B) (h9 : 9 ≤ lo) (hn : lo + n ≤ 14144) (s9 : 9 ≤ so) (sn : so + n ≤ 14144) (hd : Done d so (so + n)) :
    Calls Try.prog 24 #[.slice (some ⟨B, lo, none⟩) n cap, .slice (some ⟨S, so, none⟩) n cap'] w fun e w' => FillPost B T c lo n w e w' := by
  go_enter Try.func24, Try.ntmps24
  go_wp2
  go_loopw [7] (fun i wr => ∃ k : Nat, k ≤ n ∧ i = .int .i64 k ∧ w.grownBy wr (some B) ∧ ∃ c', Img wr B T c' ∧ Up c c' ∧ Done c' lo (lo + k)) (fun i _ => n - (intOf i).toNat)
  case atStart => exact ⟨0, Nat.zero_le _, rfl, World.grownBy.refl _ _, c, I, Up.refl c, fun j h1 h2 => absurd h2 (by omega)⟩
  case round =>
    obtain ⟨k, hk, rfl, g, c', I', U, D⟩ := hrel
    by_cases hlt : k < n
    · have hc := I'.cellU (lo + k) (by omega) (by omega)
      have hf := I'.frozen (lo + k)
      have hs := (J.kept g (fun e => hne (Option.some.inj e))).cellU (so + k) (by omega) (by omega)
      rw [hd (so + k) (by omega) (by omega)] at hs
      go_wp2
      go_roundw
      case rel => exact ⟨k + 1, by omega, by go_num, grown_set g, _, I'.setU (lo + k) (by omega) (by omega) 1024, U.upd _ (by omega), D.upd⟩
      case measure => simp [intOf]; omega
    · go_wp2
      go_end0
      have e : k = n := by omega
      subst e
      exact ⟨rfl, g, c', I', U, D⟩

/-! ### allHalf -/
set_option maxHeartbeats 400000 in
theorem allHalf_any (w : World) (B : Nat) (T : TypeId) (c : Nat → Int) (lo n cap : Nat) (I : Img w B T c) (h9 : 9 ≤ lo) (hn : lo + n ≤ 14144) (hd : Done c lo (lo + n)) :
    Calls Try.prog 17 #[.slice (some ⟨B, lo, none⟩) n cap] w fun e w' => e = .returned (.bool true) ∧ w = w' := by
  go_enter Try.func17, Try.ntmps17
  go_wp2
  go_loop [3] (fun i => ∃ k : Nat, k ≤ n ∧ i = .int .i64 k) (fun i => n - (intOf i).toNat)
  case atStart => exact ⟨0, Nat.zero_le _, rfl⟩
  case round =>
    obtain ⟨k, hk, rfl⟩ := hrel
    by_cases hlt : k < n
    · have hc := I.cellU (lo + k) (by omega) (by omega)
      rw [hd (lo + k) (by omega) (by omega)] at hc
      go_wp2
      go_round
      case rel => exact ⟨k + 1, by omega, by go_num⟩
      case measure => simp [intOf]; omega
    · go_wp2
      go_ret
      exact ⟨rfl, rfl⟩

end Go.Proofs.Qxb6619462a.Reset
