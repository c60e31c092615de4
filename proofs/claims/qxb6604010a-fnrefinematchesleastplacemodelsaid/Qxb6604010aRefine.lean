import Derived.Test.Qxb6604010aGhost
namespace Go.Proofs.Qxb6604010a
open Go.RowKit Go.Maps

set_option maxHeartbeats 400000 in
/-- refine of an empty fact. -/
theorem refine_zero (x : Addr) (a : Option Addr) (C : Nat) (w : World) :
    Calls Try.prog 29 #[.pointer (some x), .slice a 0 C] w fun e w' => e = .returned (.tuple #[]) ∧ Below w.heap.size w w' := by
  have hmm := @run_makeMap Try.prog
  go_enter Try.func29, Try.ntmps29
  go_wp2
  refine wp_loop_rounds 1 ?_
  rw [rounds_succ]
  go_wp2
  go_end0
  exact ⟨rfl, (Below.refl _ _).alloc (Nat.le_refl _) _⟩

/-- What refine leaves in 'varies' and 'same' after k places. -/
def vAt (k : Nat) (V : Nat → Bool) (F Z0 : Nat → Int) (j : Nat) : Bool := if j < k then (V j || F j != Z0 j) else V j
def sAt (k : Nat) (S F : Nat → Int) (j : Nat) : Int := if j < k then (tied S F j : Nat) else S j

theorem rowIs_grown {w w' : World} {b t n m : Nat} {f : Nat → Value} (h : w.rowIs b t n f) (hg : w.grownBy w' (some m)) (hb : b ≠ m) : w'.rowIs b t n f :=
  h.of_block (hg.block b h.lt (by simpa using hb))

theorem row_v_yes {w : World} {b N k : Nat} {V : Nat → Bool} {F Z0 : Nat → Int} (h : w.rowIs b 4 N (fun j => .bool (vAt k V F Z0 j))) (hd : (F k != Z0 k) = true) : (w.setCell ⟨b, k, none⟩ (.bool true)).rowIs b 4 N (fun j => .bool (vAt (k + 1) V F Z0 j)) :=
  (h.set k _).congr fun j _ => by
    by_cases e : j = k
    · subst e; simp [vAt, hd]
    · simp only [e, if_false, vAt]
      by_cases h2 : j < k
      · simp [h2, show j < k + 1 by omega]
      · simp [h2, show ¬ j < k + 1 by omega]

theorem row_v_no {w : World} {b N k : Nat} {V : Nat → Bool} {F Z0 : Nat → Int} (h : w.rowIs b 4 N (fun j => .bool (vAt k V F Z0 j))) (hd : (F k != Z0 k) = false) : w.rowIs b 4 N (fun j => .bool (vAt (k + 1) V F Z0 j)) :=
  h.congr fun j _ => by
    by_cases e : j = k
    · subst e; simp [vAt, hd]
    · simp only [vAt]
      by_cases h2 : j < k
      · simp [h2, show j < k + 1 by omega]
      · simp [h2, show ¬ j < k + 1 by omega]

theorem row_s {w : World} {b N k : Nat} {S F : Nat → Int} {c : Int} (h : w.rowIs b 3 N (fun j => .int .i64 (sAt k S F j))) (hc : c = (tied S F k : Nat)) : (w.setCell ⟨b, k, none⟩ (.int .i64 c)).rowIs b 3 N (fun j => .int .i64 (sAt (k + 1) S F j)) :=
  (h.set k _).congr fun j _ => by
    by_cases e : j = k
    · subst e; simp [sAt, hc]
    · simp only [e, if_false, sAt]
      by_cases h2 : j < k
      · simp [h2, show j < k + 1 by omega]
      · simp [h2, show ¬ j < k + 1 by omega]

set_option maxHeartbeats 1000000 in
theorem refine_pos (g : Nat) (bf fo L C : Nat) (F : Nat → Int) (b0 o0 Lf Cf : Nat) (Z0 : Nat → Int) (bv Lv Cv Nv : Nat) (V : Nat → Bool) (bs Ls Cs Ns : Nat) (S : Nat → Int) (w : World)
    (hL : L ≤ 1048576) (hLf : L ≤ Lf) (hLv : L ≤ Lv) (hLs : L ≤ Ls) (hLf2 : Lf ≤ 1048576)
    (c1 : w.cell? ⟨g, 1, none⟩ = some (.slice (some ⟨b0, o0, none⟩) Lf Cf)) (c2 : w.cell? ⟨g, 2, none⟩ = some (.slice (some ⟨bv, 0, none⟩) Lv Cv)) (c3 : w.cell? ⟨g, 3, none⟩ = some (.slice (some ⟨bs, 0, none⟩) Ls Cs))
    (hg : g < w.heap.size) (hgv : g ≠ bv) (hgs : g ≠ bs) (hvs : bv ≠ bs) (h0 : b0 < w.heap.size) (h0v : b0 ≠ bv) (h0s : b0 ≠ bs) (hf : bf < w.heap.size) (hfv : bf ≠ bv) (hfs : bf ≠ bs)
    (cf : ∀ j, j < L → w.cell? ⟨bf, fo + j, none⟩ = some (.int .i32 (F j))) (c0 : ∀ j, j < L → w.cell? ⟨b0, o0 + j, none⟩ = some (.int .i32 (Z0 j)))
    (rv : w.rowIs bv 4 Nv (fun j => .bool (V j))) (hNv : L ≤ Nv) (rs : w.rowIs bs 3 Ns (fun j => .int .i64 (S j))) (hNs : L ≤ Ns)
    (hwS : ∀ j, j < L → (Lit.int .i64 (S j)).wf = true) (hwF : ∀ j, j < L → (Lit.int .i32 (F j)).wf = true) :
    Calls Try.prog 29 #[.pointer (some ⟨g, 0, none⟩), .slice (some ⟨bf, fo, none⟩) L C] w fun e w' => e = .returned (.tuple #[]) ∧
      w'.rowIs bv 4 Nv (fun j => .bool (vAt L V F Z0 j)) ∧ w'.rowIs bs 3 Ns (fun j => .int .i64 (sAt L S F j)) ∧ Kept (fun k => k = bv ∨ k = bs) w w' := by
  have hmm := @run_makeMap Try.prog
  have hbvlt := rv.lt
  have hbslt := rs.lt
  have CF : Hid (∀ j, j < L → w.cell? ⟨bf, fo + j, none⟩ = some (.int .i32 (F j))) := cf
  have C0 : Hid (∀ j, j < L → w.cell? ⟨b0, o0 + j, none⟩ = some (.int .i32 (Z0 j))) := c0
  have WS : Hid (∀ j, j < L → (Lit.int .i64 (S j)).wf = true) := hwS
  have WF : Hid (∀ j, j < L → (Lit.int .i32 (F j)).wf = true) := hwF
  have C1 := hide c1
  have C2 := hide c2
  have C3 := hide c3
  have RV := hide rv
  have RS := hide rs
  clear cf c0 hwS hwF c1 c2 c3 rv rs
  go_enter Try.func29, Try.ntmps29
  go_wp2
  go_loopw [13] (fun i wr => ∃ (k : Nat) (D : DataW Unit), k ≤ L ∧ i = .int .i64 k ∧ wr.ownsMap Try.prog 65 (plainElem Try.prog 3) w.heap.size k D ∧ MapOk D L k S F ∧
      wr.rowIs bv 4 Nv (fun j => .bool (vAt k V F Z0 j)) ∧ wr.rowIs bs 3 Ns (fun j => .int .i64 (sAt k S F j)) ∧ Kept (fun k => k = bv ∨ k = bs) w wr) (fun i _ => L - (intOf i).toNat)
  case atStart => 
    refine ⟨0, .map [], Nat.zero_le _, rfl, World.ownsMap_made _ _ _ _, mapOk_start _ _ _, ?_, ?_, (Kept.refl _ _).alloc _⟩
    · exact (RV.out.alloc _).congr (by simp [vAt])
    · exact (RS.out.alloc _).congr (by simp [sAt])
  case round =>
    obtain ⟨k, D, hk, rfl, hown, hmap, hrv, hrs, hkp⟩ := hrel
    by_cases hlt : k < L
    · have e1 := (hkp.cell (p := ⟨g, 1, none⟩) hg (by simp; omega)).trans C1.out
      have e2 := (hkp.cell (p := ⟨g, 2, none⟩) hg (by simp; omega)).trans C2.out
      have e3 := (hkp.cell (p := ⟨g, 3, none⟩) hg (by simp; omega)).trans C3.out
      have ef := (hkp.cell (p := ⟨bf, fo + k, none⟩) hf (by simp; omega)).trans (CF.out k hlt)
      have e0 := (hkp.cell (p := ⟨b0, o0 + k, none⟩) h0 (by simp; omega)).trans (C0.out k hlt)
      have ev := hrv.cell (i := k) (by omega)
      have fv := hrv.frozen k
      have es : wr.cell? ⟨bs, k, none⟩ = some (.int .i64 (S k)) := by have := hrs.cell (i := k) (by omega); simpa [sAt] using this
      have fs := hrs.frozen k
      have ws := WS.out k hlt
      have wf := WF.out k hlt
      have hg2 : g < wr.heap.size := Nat.lt_of_lt_of_le hg hkp.size
      have hbs2 : bs < wr.heap.size := hrs.lt
      have HKP := hide hkp
      have HRV := hide hrv
      have HRS := hide hrs
      have HO := hide hown
      have HM := hide hmap
      clear hkp hrv hrs hown hmap
      cases hd : (F k != Z0 k)
      · cases hh : Maps.has D (tieKey (S k) (F k))
        · skip
          have HX := hide (HM.out.miss HO.out.isMap hlt WS.out WF.out hh)
          go_wp2_with (first | (at_lookup; refine wpList_lookup_own_ok_int _ rfl _ _ 63 rfl 65 3 .i64 lawTie Try.underlying63 Try.underlying3 (zero3 _) w.heap.size k D rfl (HO.out.alloc _) _ _ rfl (keyOf_tie ws wf) ?_; intro c hat hwc) | (at_mapUpdate; refine wpList_mapUpdate_own _ rfl _ _ _ 63 rfl 65 3 lawTie Try.underlying63 _ w.heap.size k D rfl (HO.out.alloc _) (by unfold maxLen; omega) _ _ _ rfl rfl (keyOf_tie ws wf) _ [] (plainElem_int Try.underlying3 (WalkArith.wf_i64 (by omega))) ?_; intro w1 hown1 hgrow1; have K1 := hide ((HKP.out.alloc _).grown hgrow1 (Nat.le_refl _)); have R1 := hide (rowIs_grown (HRS.out.alloc _) hgrow1 (by omega)); have V1 := hide (rowIs_grown (HRV.out.alloc _) hgrow1 (by omega)); have O1 := hide hown1; clear hown1 hgrow1; have e3' := (K1.out.cell (p := ⟨g, 3, none⟩) hg (by simp; omega)).trans C3.out; have es' := R1.out.cell (i := k) (by omega); have fs' := R1.out.frozen k))
          go_roundw
          case rel => exact ⟨k + 1, _, by omega, by go_num, O1.out.setCell (by simp; omega) _, HX.out.2, (row_v_no V1.out hd).setOther (by simp; omega) _, row_s R1.out (by rw [HX.out.1]), K1.out.setCell (.inl (.inr rfl)) _⟩
          case measure => simp [intOf]; omega
        · skip
          go_wp2_with (first | (at_lookup; refine wpList_lookup_own_ok_int _ rfl _ _ 63 rfl 65 3 .i64 lawTie Try.underlying63 Try.underlying3 (zero3 _) w.heap.size k D rfl (HO.out.alloc _) _ _ rfl (keyOf_tie ws wf) ?_; intro c hat hwc))
          have HX := hide (HM.out.hit hlt hh hat)
          go_roundw
          case rel => exact ⟨k + 1, _, by omega, by go_num, ((HO.out.setCell (a := ⟨bs, k, none⟩) (by simp; omega) _).alloc _).mono (Nat.le_succ _), HX.out.2, ((row_v_no HRV.out hd).setOther (a := ⟨bs, k, none⟩) (by simp; omega) _).alloc _, (row_s HRS.out HX.out.1).alloc _, (HKP.out.setCell (p := ⟨bs, k, none⟩) (.inl (.inr rfl)) _).alloc _⟩
          case measure => simp [intOf]; omega
      · cases hh : Maps.has D (tieKey (S k) (F k))
        · skip
          have HX := hide (HM.out.miss HO.out.isMap hlt WS.out WF.out hh)
          go_wp2_with (first | (at_lookup; refine wpList_lookup_own_ok_int _ rfl _ _ 63 rfl 65 3 .i64 lawTie Try.underlying63 Try.underlying3 (zero3 _) w.heap.size k D rfl ((HO.out.setCell (a := ⟨bv, k, none⟩) (by simp; omega) (.bool true)).alloc _) _ _ rfl (keyOf_tie ws wf) ?_; intro c hat hwc) | (at_mapUpdate; refine wpList_mapUpdate_own _ rfl _ _ _ 63 rfl 65 3 lawTie Try.underlying63 _ w.heap.size k D rfl ((HO.out.setCell (a := ⟨bv, k, none⟩) (by simp; omega) (.bool true)).alloc _) (by unfold maxLen; omega) _ _ _ rfl rfl (keyOf_tie ws wf) _ [] (plainElem_int Try.underlying3 (WalkArith.wf_i64 (by omega))) ?_; intro w1 hown1 hgrow1; have K1 := hide (((HKP.out.setCell (p := ⟨bv, k, none⟩) (.inl (.inl rfl)) (.bool true)).alloc _).grown hgrow1 (Nat.le_refl _)); have R1 := hide (rowIs_grown ((HRS.out.setOther (a := ⟨bv, k, none⟩) (by simp; omega) (.bool true)).alloc _) hgrow1 (by omega)); have V1 := hide (rowIs_grown ((row_v_yes HRV.out hd).alloc _) hgrow1 (by omega)); have O1 := hide hown1; clear hown1 hgrow1; have e3' := (K1.out.cell (p := ⟨g, 3, none⟩) hg (by simp; omega)).trans C3.out; have es' := R1.out.cell (i := k) (by omega); have fs' := R1.out.frozen k))
          go_roundw
          case rel => exact ⟨k + 1, _, by omega, by go_num, O1.out.setCell (by simp; omega) _, HX.out.2, V1.out.setOther (by simp; omega) _, row_s R1.out (by rw [HX.out.1]), K1.out.setCell (.inl (.inr rfl)) _⟩
          case measure => simp [intOf]; omega
        · skip
          go_wp2_with (first | (at_lookup; refine wpList_lookup_own_ok_int _ rfl _ _ 63 rfl 65 3 .i64 lawTie Try.underlying63 Try.underlying3 (zero3 _) w.heap.size k D rfl ((HO.out.setCell (a := ⟨bv, k, none⟩) (by simp; omega) (.bool true)).alloc _) _ _ rfl (keyOf_tie ws wf) ?_; intro c hat hwc))
          have HX := hide (HM.out.hit hlt hh hat)
          go_roundw
          case rel => exact ⟨k + 1, _, by omega, by go_num, (((HO.out.setCell (a := ⟨bv, k, none⟩) (by simp; omega) (.bool true)).setCell (a := ⟨bs, k, none⟩) (by simp; omega) _).alloc _).mono (Nat.le_succ _), HX.out.2, ((row_v_yes HRV.out hd).setOther (a := ⟨bs, k, none⟩) (by simp; omega) _).alloc _, (row_s (HRS.out.setOther (a := ⟨bv, k, none⟩) (by simp; omega) (.bool true)) HX.out.1).alloc _, ((HKP.out.setCell (p := ⟨bv, k, none⟩) (.inl (.inl rfl)) (.bool true)).setCell (p := ⟨bs, k, none⟩) (.inl (.inr rfl)) _).alloc _⟩
          case measure => simp [intOf]; omega
    · have hkL : k = L := by omega
      subst hkL
      go_wp2
      go_end0
      exact ⟨rfl, hrv, hrs, hkp⟩

end Go.Proofs.Qxb6604010a
