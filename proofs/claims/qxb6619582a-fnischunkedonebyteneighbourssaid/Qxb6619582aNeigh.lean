import Derived.Test.Qxb6619582aChunk
namespace Go.Proofs.Qxb6619582a.Chunk
open Go.RowKit
set_option linter.unusedVariables false

/-- The string of the bytes ns. -/
def strOf (ns : List Int) : ByteArray := ns.foldl (fun r n => r.push (UInt8.ofNat n.toNat)) ByteArray.empty
theorem fold_data (ns : List Int) : ∀ acc : ByteArray, (ns.foldl (fun r n => r.push (UInt8.ofNat n.toNat)) acc).data.toList = acc.data.toList ++ ns.map (fun n => UInt8.ofNat n.toNat) := by
  induction ns with
  | nil => intro acc; simp
  | cons n ns ih =>
    intro acc
    rw [List.foldl_cons, ih]
    simp [ByteArray.push]
theorem strOf_data (ns : List Int) : (strOf ns).data.toList = ns.map (fun n => UInt8.ofNat n.toNat) := by
  unfold strOf
  rw [fold_data]
  simp
theorem strOf_size (ns : List Int) : (strOf ns).size = ns.length := by
  have := congrArg List.length (strOf_data ns)
  simpa using this
theorem get_list (s : ByteArray) (k : Nat) (h : k < s.size) : (s[k]'h) = s.data.toList[k]'(by simpa using h) := by
  simp [ByteArray.getElem_eq_getElem_data]
theorem strOf_get (ns : List Int) (k : Nat) (h : k < (strOf ns).size) (h' : k < ns.length) (hb : 0 ≤ ns[k] ∧ ns[k] < 256) : ((strOf ns)[k]'h).toNat = ns[k].toNat := by
  rw [get_list]
  have e : (strOf ns).data.toList[k]'(by simpa using h) = UInt8.ofNat (ns[k].toNat) := by
    simp only [strOf_data, List.getElem_map]
  rw [e, UInt8.toNat_ofNat']
  omega

/-- The bytes of s, the one at i replaced by c. -/
def setB (s : ByteArray) (i c : Nat) : List Int := (s.data.toList.map (fun b => (b.toNat : Int))).set i (c : Int)
theorem setB_len (s : ByteArray) (i c : Nat) : (setB s i c).length = s.size := by simp [setB]
theorem setB_get (s : ByteArray) (i c k : Nat) (h : k < s.size) (h' : k < (setB s i c).length) : (setB s i c)[k]'h' = if i = k then (c : Int) else ((s[k]'h).toNat : Int) := by
  have e : (setB s i c)[k]? = some (if i = k then (c : Int) else ((s[k]'h).toNat : Int)) := by
    unfold setB
    have hl : k < s.data.toList.length := by simpa using h
    rw [List.getElem?_set, get_list]
    by_cases e : i = k
    · subst e
      rw [if_pos rfl, if_pos (by simpa using h), if_pos rfl]
    · rw [if_neg e, if_neg e, List.getElem?_map, List.getElem?_eq_getElem hl]
      rfl
  rw [List.getElem?_eq_getElem h'] at e
  exact Option.some.inj e

theorem sp_set (s : ByteArray) (i c : Nat) (hi : i < s.size) (hc : c < 256) (h : Sp s) : Sp (strOf (setB s i c)) ↔ Ltr c i := by
  have h7 := h.1
  have hsz : (strOf (setB s i c)).size = s.size := by rw [strOf_size, setB_len]
  have hg : ∀ (k : Nat) (hk : k < s.size) (hk' : k < (strOf (setB s i c)).size), ((strOf (setB s i c))[k]'hk').toNat = if i = k then c else (s[k]'hk).toNat := by
    intro k hk hk'
    have hl : k < (setB s i c).length := by rw [setB_len]; exact hk
    have e := setB_get s i c k hk hl
    have hb : 0 ≤ (setB s i c)[k]'hl ∧ (setB s i c)[k]'hl < 256 := by
      rw [e]
      have := lt8 (s[k]'hk)
      split <;> omega
    rw [strOf_get _ k hk' hl hb, e]
    split <;> omega
  constructor
  · intro ht
    have := ht.2 i (by rw [hsz]; exact hi)
    rwa [hg i hi, if_pos rfl] at this
  · intro hL
    refine ⟨by rw [hsz, h7], fun k hk => ?_⟩
    rw [hg k (by rw [← hsz]; exact hk)]
    split
    · rename_i e; subst e; exact hL
    · exact h.2 k _

/-! ### THE CONVERSIONS' WORLDS -/
theorem bw_frozen (w : World) (s : ByteArray) (j : Nat) (hj : j < s.size) : (Lib.bytesWorld w 5 s).frozen? ⟨w.heap.size, j, none⟩ = false := by
  have hc : s.size ≤ (Lib.bytesCells w 5 s).size := by simp [Lib.bytesCells]
  simp only [World.frozen?, Lib.bytesWorld_at_new]
  simp
  omega
theorem bw_below (w : World) (s : ByteArray) : Below w.heap.size w (Lib.bytesWorld w 5 s) :=
  ⟨rfl, rfl, rfl, by rw [Lib.bytesWorld_size]; omega, fun k hk => Lib.bytesWorld_at_old w 5 s k hk⟩
theorem bw_cell (w : World) (s : ByteArray) (j : Nat) (hj : j < s.size) : (Lib.bytesWorld w 5 s).cell? ⟨w.heap.size, j, none⟩ = some (.int .u8 ((s[j]'hj).toNat : Int)) := by
  rw [Lib.bytesWorld_cell w 5 s j hj, get_list]
  have : j < s.data.toList.length := by simpa using hj
  rw [List.getD, List.getElem?_eq_getElem this]
  rfl
theorem conv_str (W : World) (s : ByteArray) (B cap i c : Nat) (hc : ∀ (j : Nat) (hj : j < s.size), W.cell? ⟨B, j, none⟩ = some (.int .u8 ((s[j]'hj).toNat : Int))) (hi : i < s.size) :
    (convert 26 9 (.slice (some ⟨B, 0, none⟩) s.size cap)).run Try.prog (W.setCell ⟨B, i, none⟩ (.int .u8 (c : Int))) = .ok (.string (strOf (setB s i c))) (W.setCell ⟨B, i, none⟩ (.int .u8 (c : Int))) := by
  rw [run_convert_bytes_string _ 26 9 5 _ _ _ Try.underlying26 Try.underlying5 Try.underlying9]
  refine run_bytesToString _ _ _ _ (setB s i c) ?_
  have h := run_loadCells_list (P := Try.prog) (w := W.setCell ⟨B, i, none⟩ (.int .u8 (c : Int))) ⟨B, 0, none⟩ ((setB s i c).map (Value.int .u8)) (by
    intro j v hv
    have hj : j < s.size := by
      have := (List.getElem?_eq_some_iff.1 hv).1
      simpa [setB_len] using this
    have hl : j < (setB s i c).length := by rw [setB_len]; exact hj
    rw [Addr.add_lit, Nat.zero_add]
    have hv' : v = .int .u8 ((setB s i c)[j]'hl) := by
      rw [List.getElem?_map, List.getElem?_eq_getElem hl] at hv
      simpa using hv.symm
    rw [hv', setB_get s i c j hj hl]
    by_cases e : i = j
    · subst e
      rw [if_pos rfl]
      exact World.cell?_setCell_same _ _ _ (hc i hi)
    · rw [if_neg e, World.cell?_setCell_other _ _ _ _ (fun he => e (congrArg Addr.off he))]
      exact hc j hj)
  rw [List.length_map, setB_len] at h
  exact h

theorem zb11 (a0 : ByteArray) (a1 a2 : Int) (w : World) (hl : a0.size ≤ 1048576) : Calls Try.prog 11 #[.string a0, .int .i64 a1, .int .u8 a2] w fun e w' => e = .returned (.bool true) ∧ w = w' := by
  go_enter Try.func11, Try.ntmps11
  go_wp2
  go_ret
  exact ⟨rfl, rfl⟩
theorem zb11_no (a0 : ByteArray) (a1 a2 : Int) (w : World) (hl : ¬ a0.size ≤ 1048576) : Calls Try.prog 11 #[.string a0, .int .i64 a1, .int .u8 a2] w fun e w' => e = .returned (.bool false) ∧ w = w' := by
  go_enter Try.func11, Try.ntmps11
  go_wp2
  go_ret
  exact ⟨rfl, rfl⟩

/-! ### THE LAW WHERE THE EARLY TESTS SAY NO -/
theorem ret_bool {b : Bool} (h : b = true) : Ending.returned (.bool b) = .returned (.bool true) := by rw [h]
theorem Drew.below {w w' : World} (h : Drew w w') : Below w.heap.size w w' := by
  obtain ⟨n, rfl⟩ := h
  exact ⟨rfl, rfl, rfl, Nat.le_refl _, fun _ _ => rfl⟩
theorem Drew.size {w w' : World} (h : Drew w w') : w'.heap.size = w.heap.size := by obtain ⟨n, rfl⟩ := h; rfl

set_option maxRecDepth 20000 in
set_option maxHeartbeats 1000000 in
theorem neigh_main (s : ByteArray) (i c : Nat) (hs : s.size ≤ 1048576) (hi : i < s.size) (hc : c < 256) (w : World) :
    Calls Try.prog 5 #[.string s, .int .i64 i, .int .u8 c] w fun e w' => e = .returned (.bool true) ∧ Below w.heap.size w w' := by
  have i1 := idx s (i : Int) i rfl hi
  go_enter Try.func5, Try.ntmps5
  go_wp2_with (go_at_call 11; refine (zb11 _ _ _ _ hs).mono ?_; rintro e w' ⟨rfl, rfl⟩)
  refine (spelled_any s hs w).mono ?_
  rintro e w1 ⟨b, rfl, hb, d1⟩
  by_cases hS : Sp s
  · have eb : b = true := hb.2 hS
    subst eb
    have HS : Hid (Sp s) := hS
    clear hb hS
    have hcv := Lib.run_convert_string_bytes (P := Try.prog) w1 9 26 5 s Try.underlying9 Try.underlying26 Try.underlying5
    have hcell := bw_cell w1 s i hi
    have hfrz := bw_frozen w1 s i hi
    have hcv2 := conv_str (Lib.bytesWorld w1 5 s) s w1.heap.size (grownCap w1 s.size 0 5) i c (bw_cell w1 s) hi
    have hbel : Hid (Below w.heap.size w ((Lib.bytesWorld w1 5 s).setCell ⟨w1.heap.size, i, none⟩ (.int .u8 (c : Int)))) :=
      ((d1.below).trans ((bw_below w1 s).mono (by rw [d1.size]; exact Nat.le_refl _))).setCell (by show w.heap.size ≤ w1.heap.size; rw [d1.size]; exact Nat.le_refl _) _
    have h7 := HS.out.1
    have hLi := HS.out.2 i hi
    have hlu := low_up i (by omega)
    have HL7 : Hid (s.size = 7) := h7
    clear h7
    go_wp2_with fail
    refine (zzchunked_any s hs _).mono ?_
    rintro e w2 ⟨b2, rfl, hb2, d2⟩
    have eb2 : b2 = true := hb2.2 HS.out
    subst eb2
    clear hb2 hcv hcv2 hcell hfrz
    have hst : (strOf (setB s i c)).size ≤ 1048576 := by rw [strOf_size, setB_len]; exact hs
    have HST : Hid ((strOf (setB s i c)).size ≤ 1048576) := hst
    clear hst
    have hbelow : Hid (∀ w3, Drew w2 w3 → Below w.heap.size w w3) := fun w3 d3 => (hbel.out.trans (d2.below.mono (by have := hbel.out.size; omega))).trans (d3.below.mono (by have := hbel.out.size; have := d2.size; omega))
    have fin : Hid (∀ b3 : Bool, (b3 = true ↔ Sp (strOf (setB s i c))) → (b3 = true ↔ Ltr c i)) := fun b3 h => h.trans (sp_set s i c hi hc HS.out)
    clear d2 hbel
    by_cases e1 : c = (s[i]'hi).toNat
    · have t1 : ((c : Int) == ((s[i]'hi).toNat : Int)) = true := by simp; omega
      have Hc : Hid (Ltr c i) := by show Ltr c i; rw [e1]; exact hLi
      clear hLi e1
      go_wp2_with fail
      refine (zzchunked_any (strOf (setB s i c)) HST.out _).mono ?_
      rintro e w3 ⟨b3, rfl, hb3, d3⟩
      have eb3 : b3 = true := (fin.out b3 hb3).2 Hc.out
      subst eb3
      clear hb3
      go_wp2
      go_ret
      exact ⟨rfl, hbelow.out _ d3⟩
    · have t1 : ((c : Int) == ((s[i]'hi).toNat : Int)) = false := by simp; omega
      rcases hLi with hx | hx
      · have HP := partner_low (s[i]'hi).toNat (by omega) (by omega)
        have Hc : Hid (Ltr c i ↔ c = (s[i]'hi).toNat - 32) := by
          show Ltr c i ↔ _
          unfold Ltr
          omega
        clear hx e1
        go_wp2_with (go_at_call 14; refine (HP _).mono ?_; rintro e w' ⟨rfl, rfl⟩)
        refine (zzchunked_any (strOf (setB s i c)) HST.out _).mono ?_
        rintro e w3 ⟨b3, rfl, hb3, d3⟩
        have eb3 := (fin.out b3 hb3).trans Hc.out
        have HE : Hid ((b3 == ((c : Int) == (((s[i]'hi).toNat - 32 : Nat) : Int))) = true) := by
          show _ = true
          rw [beq_iff_eq, Bool.eq_iff_iff, eb3]
          simp
          omega
        clear eb3 hb3
        go_wp2
        go_ret
        exact ⟨ret_bool HE.out, hbelow.out _ d3⟩
      · have HP := partner_up (s[i]'hi).toNat (by omega) (by omega)
        have Hc : Hid (Ltr c i ↔ c = (s[i]'hi).toNat + 32) := by
          show Ltr c i ↔ _
          unfold Ltr
          omega
        clear hx e1
        go_wp2_with (go_at_call 14; refine (HP _).mono ?_; rintro e w' ⟨rfl, rfl⟩)
        refine (zzchunked_any (strOf (setB s i c)) HST.out _).mono ?_
        rintro e w3 ⟨b3, rfl, hb3, d3⟩
        have eb3 := (fin.out b3 hb3).trans Hc.out
        have HE : Hid ((b3 == ((c : Int) == (((s[i]'hi).toNat + 32 : Nat) : Int))) = true) := by
          show _ = true
          rw [beq_iff_eq, Bool.eq_iff_iff, eb3]
          simp
          omega
        clear eb3 hb3
        go_wp2
        go_ret
        exact ⟨ret_bool HE.out, hbelow.out _ d3⟩
  · have eb : b = false := by
      cases hbb : b with
      | false => rfl
      | true => exact absurd (hb.1 hbb) hS
    subst eb
    clear hb hS
    go_wp2
    go_ret
    exact ⟨rfl, d1.below⟩

end Go.Proofs.Qxb6619582a.Chunk
