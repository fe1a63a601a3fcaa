/-
  THE PROOF OF 'Rows.FnBreaksLineAtAnyCutSaid': the frame as the given shell has it; the walk is typed.
-/
import Derived.Test.Qxb6619582aRows
import Derived.Test.Qxb6619582aEnds
import Derived.WalkKit
import Derived.ProofKit
import Derived.OpenShut
import Derived.ShutString
namespace Go.Proofs.Qxb6619582a.fnBreaksLineAtAnyCut
open Go.ChangeShapes Go.WideShapes Go.ChangeAt Go.RowKit
open Go.ChangeMaps (open_string shut_string)
set_option linter.unusedVariables false      -- a walk need not use every 'w<i>' (that an integer argument fits its kind)

theorem own : ownKnob Try.prog.godebug = none := by kernel_rfl

/-! ### THE PLAIN LAW -/
theorem hit_extract (s : ByteArray) (c a b i : Nat) (hb : b ≤ s.size) : Hit (s.extract a b) c i ↔ a + i < b ∧ Hit s c (a + i) := by
  constructor
  · rintro ⟨h, hh⟩
    have hl : a + i < b := by rw [ByteArray.size_extract] at h; omega
    refine ⟨hl, by omega, ?_⟩
    rw [ByteArray.getElem_extract] at hh
    exact hh
  · rintro ⟨hl, h, hh⟩
    refine ⟨by rw [ByteArray.size_extract]; omega, ?_⟩
    rw [ByteArray.getElem_extract]
    exact hh

/-! ### STEP 1: THE WALK -/
theorem zb9 (a0 : ByteArray) (a1 a2 : Int) (w : World) (hl : a0.size ≤ 1048576) : Calls Try.prog 9 #[.string a0, .int .i64 a1, .int .u8 a2] w fun e w' => e = .returned (.bool true) ∧ w = w' := by
  go_enter Try.func9, Try.ntmps9
  go_wp2
  go_ret
  exact ⟨rfl, rfl⟩
theorem zb9_no (a0 : ByteArray) (a1 a2 : Int) (w : World) (hl : ¬ a0.size ≤ 1048576) : Calls Try.prog 9 #[.string a0, .int .i64 a1, .int .u8 a2] w fun e w' => e = .returned (.bool false) ∧ w = w' := by
  go_enter Try.func9, Try.ntmps9
  go_wp2
  go_ret
  exact ⟨rfl, rfl⟩

set_option maxRecDepth 20000 in
theorem walk_long (a0 : ByteArray) (a1 a2 : Int) (w : World) (h : ¬ a0.size ≤ 1048576) :
    Calls Try.prog 4 #[.string a0, .int .i64 a1, .int .u8 a2] w fun e w' => e = .returned (.bool true) ∧ Grown w w' := by
  go_enter Try.func4, Try.ntmps4
  go_wp2_with (go_at_call 9; refine (zb9_no _ _ _ _ h).mono ?_; rintro e w' ⟨rfl, rfl⟩)
  go_ret
  exact ⟨rfl, Grown.refl _⟩
set_option maxRecDepth 20000 in
theorem walk_early (a0 : ByteArray) (a1 a2 : Int) (w : World) (hl : a0.size ≤ 1048576) (h : a1 < 0 ∨ (0 ≤ a1 ∧ (a0.size : Int) < a1)) :
    Calls Try.prog 4 #[.string a0, .int .i64 a1, .int .u8 a2] w fun e w' => e = .returned (.bool true) ∧ Grown w w' := by
  rcases h with h | ⟨h1, h2⟩
  all_goals
    go_enter Try.func4, Try.ntmps4
    go_wp2_with (go_at_call 9; refine (zb9 _ _ _ _ hl).mono ?_; rintro e w' ⟨rfl, rfl⟩)
    go_ret
    exact ⟨rfl, Grown.refl _⟩

theorem plain2 {s : ByteArray} {c cut i : Nat} {b2 : Bool} (hcut : cut ≤ s.size) (h2 : b2 = true ↔ ∃ i, Hit (s.extract 0 cut) c i) (f1 : ∀ j, j < i → ¬ Hit s c j) (f2 : i < s.size → Hit s c i) : b2 = decide (i < cut) := by
  have e2 : b2 = true ↔ i < cut := by
    rw [h2]
    constructor
    · rintro ⟨j, hj⟩
      obtain ⟨h, hj⟩ := (hit_extract s c 0 cut j hcut).1 hj
      apply Classical.byContradiction
      intro hn
      exact f1 (0 + j) (by omega) hj
    · intro h
      refine ⟨i, (hit_extract s c 0 cut i hcut).2 ⟨by omega, ?_⟩⟩
      rw [Nat.zero_add]
      exact f2 (by omega)
  rw [Bool.eq_iff_iff, e2]; simp
theorem plain3 {s : ByteArray} {c cut : Nat} {q : Int} {b3 : Bool} (h3 : b3 = true ↔ ∃ i, Hit (s.extract cut s.size) c i) (l1 : ∀ j : Nat, q < j → ¬ Hit s c j) (l2 : 0 ≤ q → Hit s c q.toNat) : b3 = decide ((cut : Int) ≤ q) := by
  have e3 : b3 = true ↔ (cut : Int) ≤ q := by
    rw [h3]
    constructor
    · rintro ⟨j, hj⟩
      obtain ⟨h, hj⟩ := (hit_extract s c cut s.size j (Nat.le_refl _)).1 hj
      apply Classical.byContradiction
      intro hn
      exact l1 (cut + j) (by omega) hj
    · intro h
      have hq := l2 (by omega)
      refine ⟨q.toNat - cut, (hit_extract s c cut s.size _ (Nat.le_refl _)).2 ?_⟩
      rw [show cut + (q.toNat - cut) = q.toNat by omega]
      exact ⟨hq.lt, hq⟩
  rw [Bool.eq_iff_iff, e3]; simp
theorem plain1 {s : ByteArray} {c cut i : Nat} {q : Int} {b1 : Bool} (hcut : cut ≤ s.size) (h1 : b1 = true ↔ ∃ i, Hit s c i) (f1 : ∀ j, j < i → ¬ Hit s c j) (f2 : i < s.size → Hit s c i) (l1 : ∀ j : Nat, q < j → ¬ Hit s c j) (l2 : 0 ≤ q → Hit s c q.toNat) :
    (b1 == (decide (i < cut) || decide ((cut : Int) ≤ q))) = true := by
  have e1 : b1 = true ↔ i < cut ∨ (cut : Int) ≤ q := by
    rw [h1]
    constructor
    · rintro ⟨j, hj⟩
      by_cases hl : j < cut
      · refine .inl ?_
        apply Classical.byContradiction
        intro hn
        exact f1 j (by omega) hj
      · refine .inr ?_
        apply Classical.byContradiction
        intro hn
        exact l1 j (by omega) hj
    · rintro (h | h)
      · exact ⟨i, f2 (by omega)⟩
      · exact ⟨_, l2 (by omega)⟩
  rw [beq_iff_eq, Bool.eq_iff_iff, e1]; simp

set_option maxRecDepth 20000 in
set_option maxHeartbeats 1000000 in
theorem walk_main (s : ByteArray) (c cut : Nat) (w : World) (hs : s.size ≤ 1048576) (hc : c < 256) (hcut : cut ≤ s.size) :
    Calls Try.prog 4 #[.string s, .int .i64 cut, .int .u8 c] w fun e w' => e = .returned (.bool true) ∧ Grown w w' := by
  have z1 : (s.extract 0 cut).size ≤ 1048576 := by rw [ByteArray.size_extract]; omega
  have z2 : (s.extract cut s.size).size ≤ 1048576 := by rw [ByteArray.size_extract]; omega
  have HZ1 : Hid ((s.extract 0 cut).size ≤ 1048576) := z1
  have HZ2 : Hid ((s.extract cut s.size).size ≤ 1048576) := z2
  clear z1 z2
  go_enter Try.func4, Try.ntmps4
  go_wp2_with (go_at_call 9; refine (zb9 _ _ _ _ hs).mono ?_; rintro e w' ⟨rfl, rfl⟩)
  refine (zzbrk_any s c hs hc w).mono ?_
  rintro e w1 ⟨b1, rfl, hb1, n1, rfl⟩
  have HB1 : Hid (b1 = true ↔ ∃ i, Hit s c i) := hb1
  clear hb1
  go_wp2_with fail
  refine (zzbrk_any (s.extract 0 cut) c HZ1.out hc _).mono ?_
  rintro e w2 ⟨b2, rfl, hb2, n2, rfl⟩
  have HB2 : Hid (b2 = true ↔ ∃ i, Hit (s.extract 0 cut) c i) := hb2
  clear hb2
  go_wp2_with fail
  refine (zzbrk_any (s.extract cut s.size) c HZ2.out hc _).mono ?_
  rintro e w3 ⟨b3, rfl, hb3, n3, rfl⟩
  have HB3 : Hid (b3 = true ↔ ∃ i, Hit (s.extract cut s.size) c i) := hb3
  clear hb3
  go_wp2_with fail
  refine (first_any s c hs hc _).mono ?_
  rintro e w4 ⟨i, rfl, hi, f1, f2, rfl⟩
  have HF : Hid ((∀ j, j < i → ¬ Hit s c j) ∧ (i < s.size → Hit s c i)) := ⟨f1, f2⟩
  clear f1 f2
  have e2 := plain2 hcut HB2.out HF.out.1 HF.out.2
  subst e2
  go_wp2_with fail
  refine (last_any s c hs hc _).mono ?_
  rintro e w5 ⟨q, rfl, hq1, hq2, l1, l2, rfl⟩
  have e3 := plain3 HB3.out l1 l2
  subst e3
  have hE := plain1 hcut HB1.out HF.out.1 HF.out.2 l1 l2
  have HE : Hid ((b1 == (decide (i < cut) || decide ((cut : Int) ≤ q))) = true) := hE
  clear hE l1 l2
  go_wp2
  · go_ret
    exact ⟨ret_bool HE.out, by repeat (first | exact Grown.refl _ | apply Grown.drew | apply Grown.alloc)⟩
  · go_ret
    have hlt : i < cut := by omega
    have hb1 : b1 = true := by have := HE.out; rw [decide_eq_true hlt, Bool.true_or] at this; simpa using this
    exact ⟨ret_bool hb1, by repeat (first | exact Grown.refl _ | apply Grown.drew | apply Grown.alloc)⟩

theorem walk (a0 : ByteArray) (a1 : Int) (a2 : Int) (w0 : a0.size ≤ maxLen) (w1 : (Lit.int .i64 a1).wf = true) (w2 : (Lit.int .u8 a2).wf = true) (w : World) :
    Calls Try.prog 4 #[.string a0, .int .i64 a1, .int .u8 a2] w fun e w' => e = .returned (.bool true) ∧ Grown w w' := by
  obtain ⟨c0, c1⟩ := bounds_u8 w2
  obtain ⟨c, rfl⟩ := Int.eq_ofNat_of_zero_le c0
  by_cases hl : a0.size ≤ 1048576
  · by_cases h : a1 < 0 ∨ (0 ≤ a1 ∧ (a0.size : Int) < a1)
    · exact walk_early a0 a1 c w hl h
    · obtain ⟨cut, rfl⟩ := Int.eq_ofNat_of_zero_le (show 0 ≤ a1 by omega)
      exact walk_main a0 c cut w hl (by omega) (by omega)
  · exact walk_long a0 a1 c w hl

/-! ### THE ROW's STEP: WRITTEN OUT: LEAVE IT -/
set_option maxRecDepth 100000 in
theorem lifted (os : Os) (started : os.Started) (H : Type) (enc : TypeId × Value → H) :
    ReturnsInHanded {} Try.checked os 4 .any (Rows.fnBreaksLineAtAnyCutSpec.pre6 enc Try.prog Try.f4 Rows.fnBreaksLineAtAnyCutRow.domain false) (Rows.fnBreaksLineAtAnyCutSpec.post enc Try.prog Try.f4 false true false false) := by
  refine returnsInHanded_of_change (C := Try.checked) own started (by kernel_rfl) Try.func4
    (ChangeSpec.witness6 (enc := enc) (C := Try.checked) false ⟨#[], #[.string ByteArray.empty, .int .i64 0, .int .u8 0], []⟩ 8 (by kernel_rfl) (by kernel_rfl) (by kernel_rfl) (by kernel_rfl)) ?_
  intro W base args ds gs before hval0 hW hcnd _
  have hval : ∀ (j : Nat) t v, Try.f4.params[j]? = some t → args[j]? = some v → Value.okWide Try.prog W .any base t v := hval0
  have hW' := hW
  obtain ⟨p, q, hA0, hV, rfl, hfz, hnd⟩ := hW
  have hA : DataW.TrodAll enc Try.prog W 0 (fun _ => true) true Try.f4.params.toList args.toList ds p := hA0
  rw [Try.params4] at hA hval
  obtain ⟨v0, vs0, d0, ds0, p0, q0, hargs, rfl, rfl, h0, r0⟩ := trodAll_cons hA
  obtain ⟨v1, vs1, d1, ds1, p1, q1, rfl, rfl, rfl, h1, r1⟩ := trodAll_cons r0
  obtain ⟨v2, vs2, d2, ds2, p2, q2, rfl, rfl, rfl, h2, r2⟩ := trodAll_cons r1
  obtain ⟨rfl, rfl, rfl⟩ := trodAll_nil r2
  obtain rfl : args = #[v0, v1, v2] := by cases args; simp_all
  obtain ⟨rfl, rfl⟩ := trodVars_none hV
  obtain ⟨a0, rfl, rfl, rfl, w0⟩ := open_string Try.underlying9 (hval 0 9 v0 rfl rfl) h0
  obtain ⟨a1, rfl, rfl, rfl, w1⟩ := open_int Try.underlying3 (hval 1 3 v1 rfl rfl) h1
  obtain ⟨a2, rfl, rfl, rfl, w2⟩ := open_int Try.underlying5 (hval 2 5 v2 rfl rfl) h2
  clear hA0 hval0
  simp only [List.append_nil] at hW'
  refine (walk a0 a1 a2 w0 w1 w2 W).mono fun e W' ⟨he, hg⟩ => ?_
  subst he
  exact ⟨_, rfl, post_of_same (pa := []) (pv := []) hW' (fun _ _ _ => (trodAll_cons_mk (shut_bool Try.underlying4 _) trodAll_mk0)) (fun sp _ => (trodAll_cons_mk (shut_string Try.underlying9 w0) (trodAll_cons_mk (shut_int Try.underlying3 w1) (trodAll_cons_mk (shut_int Try.underlying5 w2) trodAll_mk0)))) (fun _ _ => rfl) rfl
    (hg.frame _) hg.2.1 (ok_one (by kernel_rfl) rfl (okWide_bool_mk Try.underlying4 _))⟩

theorem over : Rows.fnBreaksLineAtAnyCutRow.holds Try.pinned (OpenSpec.ofChange Rows.fnBreaksLineAtAnyCutSpec) :=
  OpenClaim.holds_of_wide 4 Try.f4 rfl rfl rfl rfl rfl rfl rfl ⟨rfl, rfl, rfl, rfl, rfl⟩ rfl rfl rfl rfl rfl (by kernel_rfl) Try.func4 (by kernel_rfl)
    (of_decide_eq_true (by kernel_rfl)) (by unfold Func.isWrapper; first | (rw [if_pos (by decide +kernel)]; kernel_rfl) | (rw [if_neg (by decide +kernel)]; exact ⟨rfl, rfl⟩))
    (fun os started H enc _ => lifted os started H enc)

/-- ████ THE STATEMENT ████ -/
theorem proved : Rows.FnBreaksLineAtAnyCutSaid :=
  over
end Go.Proofs.Qxb6619582a.fnBreaksLineAtAnyCut
