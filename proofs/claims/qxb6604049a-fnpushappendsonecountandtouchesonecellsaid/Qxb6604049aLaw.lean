import Derived.Test.Qxb6604049aApp
import Derived.Deep.CutRange
namespace Go.Proofs.Qxb6604049a
open Go.RowKit

theorem rangeAt_below {w w' : World} {b o B : Nat} {cs : List Value} (h : w.rangeAt b o cs) (hb : Below B w w') (hlt : b < B) : w'.rangeAt b o cs := fun j v hv => (hb.cell (p := ⟨b, o + j, none⟩) hlt).trans (h j v hv)
theorem Chunks.below {w w' : World} {B B' : Nat} {ao : Option Addr} {c cap : Nat} {bk : Nat → Nat} {E : Nat → Int} (h : Chunks w B ao c cap bk E) (hb : Below B' w w') (hB : w.heap.size ≤ B') : Chunks w' B ao c cap bk E :=
  h.of_blocks (fun k hk => hb.block k (by
    rcases hk with ⟨i, hi, rfl⟩ | h'
    · have := (h.rows i hi).lt; omega
    · have := (h.own.lt _ h').2; omega))
theorem Chunks.nil {w : World} {B : Nat} {ao : Option Addr} {c cap : Nat} {bk : Nat → Nat} {E : Nat → Int} (h : Chunks w B ao c cap bk E) : ao = none → c = 0 ∧ cap = 0 := by
  rintro rfl
  rcases h.own.2 with ⟨e, _⟩ | ⟨g, cap', _, e, _⟩
  · simp at e; exact e
  · simp at e
theorem own_ent {w : World} {B : Nat} {v : Value} {n : Nat} {E : Nat → Int} (h : w.ownsRow B 22 1 v n (ents E n)) : ∃ a cap, v = .slice a n cap ∧ EntIn w a n E := by
  obtain ⟨a, cap, rfl, hr⟩ := own_read h
  refine ⟨a, cap, rfl, ?_⟩
  rcases hr with h0 | ⟨g, rfl, hc⟩
  · exact .inl h0
  · exact .inr ⟨g, rfl, (h.lt g (by simp [Value.ownBlock])).2, hc⟩

/-- The entries as one row: 32 in place, then the chunks. -/
def joinE (e0 : Nat → Int) (F : Nat → Nat → Int) (j : Nat) : Int := if j < 32 then e0 j else F ((j - 32) / 1024) ((j - 32) % 1024)
theorem first32_join (e0 : Nat → Int) (F : Nat → Nat → Int) : first32 e0 = first32 (joinE e0 F) := by
  unfold first32
  refine List.map_congr_left (fun i hi => ?_)
  unfold joinE
  rw [if_pos (by simpa using hi)]
theorem ChIn.rows {w : World} {a : Option Addr} {c : Nat} {A : Nat → Option Addr} {L C : Nat → Nat} {F : Nat → Nat → Int} (h : ChIn w a c A L C F) (hL : ∀ i, i < c → L i = 1024) (e0 : Nat → Int) : RowsIn w a c (joinE e0 F) := by
  rcases h with h | ⟨b, o, ha, hl, hc⟩
  · exact .inl h
  · refine .inr ⟨b, o, ha, hl, fun i hi => ?_⟩
    obtain ⟨h1, h2⟩ := hc i hi
    rcases h2 with h2 | ⟨bi, oi, e, hbi, h3⟩
    · rw [hL i hi] at h2; omega
    · refine ⟨bi, oi, C i, by rw [h1, e, hL i hi], hbi, fun j hj => ?_⟩
      rw [h3 j (by rw [hL i hi]; exact hj)]
      unfold joinE
      rw [if_neg (by omega), show (32 + 1024 * i + j - 32) / 1024 = i by omega, show (32 + 1024 * i + j - 32) % 1024 = j by omega]

set_option maxRecDepth 100000 in
set_option maxHeartbeats 8000000 in
theorem app_any (w : World) (d n0 k : Int) (e0 : Nat → Int) (a : Option Addr) (c cap : Nat) (A : Nat → Option Addr) (L C : Nat → Nat) (F : Nat → Nat → Int) (he0 : ∀ j, j < 32 → 0 ≤ e0 j ∧ e0 j ≤ 65535) (hF : ∀ i, i < c → ∀ j, j < L i → 0 ≤ F i j ∧ F i j ≤ 65535)
    (hnil : a = none → c = 0 ∧ cap = 0) (H : ChIn w a c A L C F) :
    Calls Try.prog 3 #[.int .i64 d, .int .i64 n0, .agg (first32 e0).toArray, .slice a c cap, .int .i64 k] w fun e w' => e = .returned (.bool true) ∧ Below w.heap.size w w' := by
  rw [first32_join e0 F]
  obtain ⟨cs, hcs⟩ : ∃ cs, cs = first32 (joinE e0 F) := ⟨_, rfl⟩
  rw [← hcs]
  have HC := hide hcs
  have HL : Hid (cs.length = 32) := hide (by rw [hcs]; exact first32_length _)
  have HE0 := hide he0
  have HF := hide hF
  have HNIL := hide hnil
  have HCI := hide (H.below ((Below.refl _ w).alloc (Nat.le_refl _) (.cells cs.toArray 23)))
  clear H hnil hF he0 hcs
  go_enter Try.func3, Try.ntmps3
  go_wp2_with ((with_reducible refine wpList_load_mid rfl 23 (.tmp 7) rfl w.heap.size 0 ?_ cs _ ?_ Try.underlying23 ?_ ?_ ?_); rfl; exact World.rangeAt_of_new w cs 23; rfl; rw [info23, HL.out])
  refine (bytes5_any _ d n0 k cs a c cap A L C F HCI.out).mono ?_
  rintro e w1 ⟨⟨bb, rfl⟩, hb1⟩
  have HB1 := hide ((Below.alloc (Below.refl _ w) (Nat.le_refl _) (.cells cs.toArray 23)).trans (hb1.mono (by simp)))
  have HRG1 := hide (rangeAt_below (World.rangeAt_of_new w cs 23) hb1 (by simp))
  have HCI1 := hide (HCI.out.below hb1)
  have hs1 : w.heap.size + 1 ≤ w1.heap.size := by have := hb1.size; simpa using this
  clear hb1 HCI
  cases bb with
  | false =>
    go_wp2
    go_ret
    exact ⟨rfl, HB1.out⟩
  | true =>
    rcases Nat.lt_or_ge 65536 c with hbig | hc
    · have h' : (65536 : Int) < (c : Int) := by omega
      go_wp2
      go_ret
      exact ⟨rfl, HB1.out⟩
    have h' : ¬ (65536 : Int) < (c : Int) := by omega
    rcases Nat.lt_or_ge 1048576 (24 * c) with hbig | hc2
    · have h2 : (1048576 : Int) < 24 * (c : Int) := by omega
      go_wp2
      go_ret
      exact ⟨rfl, HB1.out⟩
    have h2 : ¬ (1048576 : Int) < 24 * (c : Int) := by omega
    go_wp2
    clear h' h2
    go_loop [11, 12] (fun z i => ∃ (q : Nat) (s : Int), q ≤ c ∧ i = .int .i64 q ∧ z = .int .i64 s ∧ 0 ≤ s ∧ s ≤ 1048576) (fun _ i => c - (intOf i).toNat)
    case atStart => exact ⟨0, 24 * c, by omega, rfl, by go_num, by omega, by omega⟩
    case round =>
      obtain ⟨q, s, hq, rfl, rfl, hs0, hs2⟩ := hrel
      rcases Nat.lt_or_ge q c with hlt | hge
      · rcases HCI1.out with h0 | ⟨b, o, rfl, hbb, hcell⟩
        · omega
        have hck := (hcell q hlt).1
        clear hcell
        rcases Nat.lt_or_ge 1048576 (L q) with h1 | h1
        · have h2 : (1048576 : Int) < (L q : Int) := by omega
          go_wp2
          go_ret
          exact ⟨rfl, HB1.out⟩
        have h2 : ¬ (1048576 : Int) < (L q : Int) := by omega
        by_cases h3 : 1048576 < s + 2 * (L q : Int)
        · go_wp2
          go_ret
          exact ⟨rfl, HB1.out⟩
        · go_wp2
          go_round
          case rel => exact ⟨q + 1, s + 2 * L q, by omega, by go_num, by go_num, by omega, by omega⟩
          case measure => simp [intOf]; omega
      · obtain rfl : c = q := by omega
        clear hge
        by_cases hk1 : k < 1
        · go_wp2
          go_ret
          exact ⟨rfl, HB1.out⟩
        by_cases hk2 : 32768 ≤ k
        · go_wp2
          go_ret
          exact ⟨rfl, HB1.out⟩
        go_wp2
        go_loop [13] (fun i => ∃ q : Nat, q ≤ c ∧ i = .int .i64 q ∧ Hid (∀ j, j < q → L j = 1024)) (fun i => c - (intOf i).toNat)
        case atStart => exact ⟨0, by omega, rfl, hide (fun _ h => by omega)⟩
        case round =>
          obtain ⟨q, hq2, rfl, HLQ⟩ := hrel
          rcases Nat.lt_or_ge q c with hlt | hge
          · rcases HCI1.out with h0 | ⟨b, o, rfl, hbb, hcell⟩
            · omega
            have hck := (hcell q hlt).1
            clear hcell
            by_cases h1 : L q = 1024
            · rw [h1] at hck
              go_wp2
              go_round
              case rel => exact ⟨q + 1, by omega, by go_num, hide (fun j hj => by
                rcases Nat.lt_or_ge j q with h | h
                · exact HLQ.out j h
                · obtain rfl : j = q := by omega
                  exact h1)⟩
              case measure => simp [intOf]; omega
            · have h2 : ¬ ((L q : Int) = 1024) := by omega
              go_wp2
              go_ret
              exact ⟨rfl, HB1.out⟩
          · obtain rfl : c = q := by omega
            clear hge
            by_cases hn0 : n0 < 0
            · go_wp2
              go_ret
              exact ⟨rfl, HB1.out⟩
            by_cases hn1 : 32 + 1024 * (c : Int) < n0
            · go_wp2
              go_ret
              exact ⟨rfl, HB1.out⟩
            obtain ⟨N, rfl⟩ : ∃ N : Nat, n0 = N := ⟨n0.toNat, by omega⟩
            have hN : N ≤ 32 + 1024 * c := by omega
            have HRI := hide (HCI1.out.rows HLQ.out e0)
            have HE : Hid (∀ j, j < 32 + 1024 * c → 0 ≤ joinE e0 F j ∧ joinE e0 F j ≤ 65535) := hide (fun j hj => by
              unfold joinE
              split
              · exact HE0.out j (by assumption)
              · exact HF.out _ (by omega) _ (by rw [HLQ.out _ (by omega)]; omega))
            generalize joinE e0 F = E at *
            go_wp2_with fail
            refine (clone_any w1 a c cap E HNIL.out (by omega) HRI.out).mono ?_
            rintro e w2 ⟨ao1, cap1, bk1, rfl, hch1, hb2⟩
            have HCH2 := hide hch1
            have HB2 := hide (HB1.out.trans (hb2.mono HB1.out.size))
            have HRG2 := hide (rangeAt_below HRG1.out hb2 (by omega))
            have hs2' := hb2.size
            clear hch1 hb2 HRI HCI1 HNIL HLQ HE0 HF HRG1 HB1
            go_wp2_with ((with_reducible refine wpList_load_mid rfl 23 (.tmp 7) rfl w.heap.size 0 ?_ cs _ ?_ Try.underlying23 ?_ ?_ ?_); rfl; exact HRG2.out; rfl; rw [info23, HL.out])
            rw [HC.out]
            refine (entries_any w2 w1.heap.size N E ao1 c cap1 bk1 hN (by omega) HCH2.out).mono ?_
            rintro e w3 ⟨v3, rfl, hown3, hb3⟩
            rw [← HC.out]
            obtain ⟨ae, ce, rfl, hent⟩ := own_ent hown3
            have HEN3 := hide hent
            have HB3 := hide (HB2.out.trans (hb3.mono HB2.out.size))
            have HRG3 := hide (rangeAt_below HRG2.out hb3 (by omega))
            have HCH3 := hide (HCH2.out.below hb3 (Nat.le_refl _))
            have hs3 := hb3.size
            clear hown3 hent hb3 HCH2 HB2 HRG2
            go_wp2
            go_loop [16] (fun i => ∃ q : Nat, q ≤ N ∧ i = .int .i64 q ∧ Hid (∀ j, j < q → 2 ≤ E j ∧ E j ≤ 65535 ∧ E j ≠ 32768)) (fun i => N - (intOf i).toNat)
            case atStart => exact ⟨0, by omega, rfl, hide (fun _ h => by omega)⟩
            case round =>
              obtain ⟨q, hq3, rfl, HV⟩ := hrel
              rcases Nat.lt_or_ge q N with hlt | hge
              · obtain ⟨v0, v1⟩ := HE.out q (by omega)
                rcases HEN3.out with h0 | ⟨g, rfl, hg, hce⟩
                · omega
                have hcq := hce q hlt
                clear hce
                by_cases hbad : E q < 2 ∨ E q = 32768
                · go_wp2_with fail
                  refine (valid_no (E q) v0 v1 hbad _).mono ?_
                  rintro e w4 ⟨rfl, hw4⟩
                  rw [hw4]
                  clear hw4 w4
                  go_wp2
                  go_ret
                  exact ⟨rfl, HB3.out⟩
                · go_wp2_with fail
                  refine (valid_any (E q) (by omega) v1 (by omega) _).mono ?_
                  rintro e w4 ⟨rfl, hw4⟩
                  rw [hw4]
                  clear hw4 w4
                  go_wp2
                  go_round
                  case rel => exact ⟨q + 1, by omega, by go_num, hide (fun j hj => by
                    rcases Nat.lt_or_ge j q with h | h
                    · exact HV.out j h
                    · obtain rfl : j = q := by omega
                      omega)⟩
                  case measure => simp [intOf]; omega
              · obtain rfl : N = q := by omega
                clear hge
                go_wp2_with fail
                refine (clone_any w3 ao1 c cap1 E HCH3.out.nil (by omega) HCH3.out.rowsIn).mono ?_
                rintro e w4 ⟨ao2, cap2, bk2, rfl, hch2, hb4⟩
                have HCW := hide hch2
                have HB4 := hide hb4
                have HRG4 := hide (rangeAt_below HRG3.out hb4 (by omega))
                have hs4 := hb4.size
                clear hch2 hb4
                go_wp2_with ((with_reducible refine wpList_load_mid rfl 23 (.tmp 7) rfl w.heap.size 0 ?_ cs _ ?_ Try.underlying23 ?_ ?_ ?_); rfl; exact HRG4.out; rfl; rw [info23, HL.out])
                rw [HC.out]
                refine (zzpush_any w4 w3.heap.size d N E ao2 c cap2 bk2 k hN (by omega) (by omega) (by omega) HE.out hs4 HCW.out).mono ?_
                rintro e w5 ⟨E', n', c', ao', cap', bk', hp, rfl, hch5, hb5⟩
                rw [← HC.out]
                have HG := hide (hp.grown hN (by omega) (by omega) HV.out)
                obtain ⟨cs', hcs'⟩ : ∃ cs, cs = first32 E' := ⟨_, rfl⟩
                have HL' : Hid (cs'.length = 32) := hide (by rw [hcs']; exact first32_length _)
                have HZ' : Hid (cs'.toArray.size = 32) := hide (by rw [List.size_toArray]; exact HL'.out)
                have HO' : Hid (∀ v ∈ cs', v.oneCell' = true) := hide (by rw [hcs']; exact first32_one _)
                have HC' := hide hcs'
                rw [← hcs']
                have hb35 := HB4.out.trans hb5
                have HB5 := hide (HB3.out.trans (hb35.mono HB3.out.size))
                have HRG5 := hide (rangeAt_below HRG3.out hb35 (by omega))
                have HCH5 := hide (HCH3.out.below hb35 (Nat.le_refl _))
                have HEN5 := hide (HEN3.out.below hb35)
                have HCH5' := hide hch5
                have hs5 := hb5.size
                clear hcs' hb35 hch5 hb5 hp HB3 HRG3 HCH3 HEN3 HB4 HRG4 HCW HV
                obtain ⟨W6, hW6⟩ : ∃ W, W = w5.alloc (.cells cs'.toArray 23) := ⟨_, rfl⟩
                have hb56 : Below w5.heap.size w5 W6 := by rw [hW6]; exact (Below.refl _ _).alloc (Nat.le_refl _) _
                have HRF6 : Hid (W6.rangeAt w5.heap.size 0 cs') := hide (by rw [hW6]; exact World.rangeAt_of_new w5 cs' 23)
                have HB6 := hide (HB5.out.trans (hb56.mono HB5.out.size))
                have HRG6 := hide (rangeAt_below HRG5.out hb56 (by omega))
                have HCH6 := hide (HCH5.out.below hb56 (Nat.le_refl _))
                have HCH6' := hide (HCH5'.out.below hb56 (Nat.le_refl _))
                have HEN6 := hide (HEN5.out.below hb56)
                have hs6 : w5.heap.size < W6.heap.size := by rw [hW6]; simp
                have HW6 := hide hW6
                clear hW6 hb56 HB5 HRG5 HCH5 HCH5' HEN5
                go_upto_region 37 with ((with_reducible refine wpList_store_new rfl 23 _ _ rfl _ cs'.toArray w5.heap.size ?_ ?_ ?_ ?_ ?_ ?_ ?_); rfl; rfl; rfl; rw [HZ'.out]; exact info23; rw [HZ'.out]; rfl; exact all_oneCell_toArray HO'.out)
                rw [← HW6.out]
                go_cut [142] from 134 to 142 (fun v ws => v = .bool false ∧ ws = W6)
                case first =>
                  rcases HG.out.num with ⟨_, rfl⟩ | ⟨_, rfl⟩
                  · go_wp2
                    go_meet
                    case rel => exact ⟨rfl, rfl⟩
                  · have h1 : ¬ ((N : Int) + 1 = N) := by omega
                    go_wp2
                    go_meet
                    case rel => exact ⟨rfl, rfl⟩
                case rest =>
                  obtain ⟨rfl, hwc⟩ := hcut
                  rw [hwc]
                  clear hwc
                  obtain ⟨J, hJ⟩ : ∃ J : Bool, J = decide (0 < N ∧ 32768 ≤ E (N - 1) ∧ E (N - 1) ≠ 65535) := ⟨_, rfl⟩
                  have HJ := hide hJ
                  clear hJ
                  go_upto_if 144 with fail
                  go_cut [22] from 145 to 158 (fun v ws => v = .bool J ∧ ws = W6)
                  case first =>
                    rcases Nat.eq_zero_or_pos N with h0 | h0
                    · obtain rfl : N = 0 := h0
                      go_wp2
                      go_meet
                      case rel => exact ⟨by rw [HJ.out]; simp, rfl⟩
                    · obtain ⟨M, rfl⟩ : ∃ M, N = M + 1 := ⟨N - 1, by omega⟩
                      obtain ⟨v0, v1⟩ := HE.out M (by omega)
                      rcases HEN6.out with h0 | ⟨g, rfl, hg, hce⟩
                      · omega
                      have hcq := hce M (by omega)
                      clear hce
                      have b1 := and_run (E M) v0 v1
                      have b2 := andNot_run (E M) v0 v1
                      by_cases hr : 32768 ≤ E M
                      · rw [if_pos hr] at b1 b2
                        by_cases hf : E M = 65535
                        · have hlt : ¬ (E M - 32768 < 32767) := by omega
                          have HFU := hide hf
                          clear hf
                          go_wp2
                          go_meet
                          case rel => exact ⟨by rw [HJ.out]; simp [HFU.out], rfl⟩
                        · have hlt : E M - 32768 < 32767 := by omega
                          go_wp2
                          go_meet
                          case rel => exact ⟨by rw [HJ.out]; simp [hf, hr], rfl⟩
                      · rw [if_neg hr] at b1 b2
                        go_wp2
                        go_meet
                        case rel => exact ⟨by rw [HJ.out]; simp; intro h; omega, rfl⟩
                  case rest =>
                    obtain ⟨rfl, hwc⟩ := hcut
                    rw [hwc]
                    clear hwc
                    go_upto_region 43 with fail
                    go_cut [167] from 159 to 167 (fun v ws => v = .bool false ∧ ws = W6)
                    case first =>
                      rcases HG.out.num with ⟨hj, rfl⟩ | ⟨hj, rfl⟩
                      · obtain ⟨rfl, j1, j2, j3⟩ := hj
                        obtain rfl : J = true := by rw [HJ.out]; simp [j1, j2, j3]
                        go_wp2
                        go_meet
                        case rel => exact ⟨rfl, rfl⟩
                      · have h1 : ¬ ((N : Int) + 1 = N) := by omega
                        by_cases hk : k = 1
                        · obtain rfl : J = false := by
                            rw [HJ.out]
                            simp only [decide_eq_false_iff_not]
                            rintro ⟨j1, j2, j3⟩
                            exact hj ⟨hk, j1, j2, j3⟩
                          go_wp2
                          go_meet
                          case rel => exact ⟨by first | (simp; done) | (simp; omega), rfl⟩
                        · go_wp2
                          go_meet
                          case rel => exact ⟨by first | (simp; done) | (simp; omega), rfl⟩
                    case rest =>
                      obtain ⟨rfl, hwc⟩ := hcut
                      rw [hwc]
                      clear hwc
                      obtain ⟨Gb, hGb⟩ : ∃ Gb : Bool, Gb = decide (c' = c + 1) := ⟨_, rfl⟩
                      have HGB := hide hGb
                      clear hGb
                      go_upto_region 45 with fail
                      go_cut [24] from 168 to 176 (fun v ws => v = .bool Gb ∧ ws = W6)
                      case first =>
                        rcases HG.out.chunk with ⟨rfl, hno⟩ | ⟨rfl, rfl, h2⟩
                        · rcases HG.out.num with ⟨_, rfl⟩ | ⟨_, rfl⟩
                          · go_wp2
                            go_meet
                            case rel => exact ⟨by rw [HGB.out]; first | (simp; done) | (simp; omega), rfl⟩
                          · have h2 : ¬ ((N : Int) = 32 + 1024 * (c' : Int)) := by omega
                            go_wp2
                            go_meet
                            case rel => exact ⟨by rw [HGB.out]; first | (simp; done) | (simp; omega), rfl⟩
                        · have h3 : ((N : Int) == 32 + 1024 * (c : Int)) = true := by simp; omega
                          clear h2
                          go_wp2
                          go_meet
                          case rel => exact ⟨by rw [HGB.out]; first | (simp; done) | (simp; omega), rfl⟩
                      case rest =>
                        obtain ⟨rfl, hwc⟩ := hcut
                        rw [hwc]
                        clear hwc
                        go_upto_if 177 with fail
                        go_cut [19] from 178 to 188 (fun v ws => v = .int .i64 (n' : Int) ∧ ws = W6)
                        case first =>
                          have hcc : c' = c ∨ c' = c + 1 := by rcases HG.out.chunk with h | h <;> omega
                          rcases hcc with rfl | rfl
                          · obtain rfl : Gb = false := by rw [HGB.out]; simp
                            go_wp2
                            go_meet
                            case rel => exact ⟨rfl, rfl⟩
                          · obtain rfl : Gb = true := by rw [HGB.out]; simp
                            go_wp2
                            go_meet
                            case rel => exact ⟨rfl, rfl⟩
                        case rest =>
                          obtain ⟨rfl, hwc⟩ := hcut
                          rw [hwc]
                          clear hwc
                          have hcap' := HG.out.cap
                          have hle := HG.out.le
                          have hle' := HG.out.le'
                          have hpos := HG.out.pos
                          clear HJ HGB
                          go_wp2
                          go_loop [25] (fun i => ∃ q : Nat, q ≤ c' ∧ i = .int .i64 q) (fun i => c' - (intOf i).toNat)
                          case atStart => exact ⟨0, by omega, rfl⟩
                          case round =>
                            obtain ⟨q, hq5, rfl⟩ := hrel
                            rcases Nat.lt_or_ge q c' with hlt | hge
                            · obtain ⟨bo, rfl, _, hbo, hcell⟩ := HCH6'.out.outer (by omega)
                              have hcq := hcell q hlt
                              clear hcell
                              go_wp2
                              go_round
                              case rel => exact ⟨q + 1, by omega, by go_num⟩
                              case measure => simp [intOf]; omega
                            · obtain rfl : c' = q := by omega
                              clear hge
                              go_wp2_with ((with_reducible refine wpList_load_mid rfl 23 (.tmp 20) rfl w5.heap.size 0 ?_ cs' _ ?_ Try.underlying23 ?_ ?_ ?_); rfl; exact HRF6.out; rfl; rw [info23, HL'.out])
                              rw [HC'.out]
                              refine (entries_any W6 w3.heap.size n' E' ao' c' cap' bk' hcap' (by omega) HCH6'.out).mono ?_
                              rintro e w7 ⟨v7, rfl, hown7, hb7⟩
                              rw [← HC'.out]
                              obtain ⟨af, cf, rfl, hent7⟩ := own_ent hown7
                              have HEN7' := hide hent7
                              have HEN7 := hide (HEN6.out.below hb7)
                              have HB7 := hide (HB6.out.trans (hb7.mono HB6.out.size))
                              have HRG7 := hide (rangeAt_below HRG6.out hb7 (by omega))
                              have HRF7 := hide (rangeAt_below HRF6.out hb7 (by omega))
                              have HCH7 := hide (HCH6.out.below hb7 (Nat.le_refl _))
                              have HCH7' := hide (HCH6'.out.below hb7 (Nat.le_refl _))
                              have hs7 := hb7.size
                              clear hown7 hent7 hb7 HEN6 HB6 HRG6 HRF6 HCH6 HCH6'
                              go_wp2
                              go_loop [27] (fun i => ∃ q : Nat, q ≤ n' ∧ i = .int .i64 q) (fun i => n' - (intOf i).toNat)
                              case atStart => exact ⟨0, by omega, rfl⟩
                              case round =>
                                obtain ⟨q, hq6, rfl⟩ := hrel
                                rcases Nat.lt_or_ge q n' with hlt | hge
                                · obtain ⟨v0, v1, v2⟩ := HG.out.valid q hlt
                                  rcases HEN7'.out with h0 | ⟨g, rfl, hg, hce⟩
                                  · omega
                                  have hcq := hce q hlt
                                  clear hce
                                  go_wp2_with fail
                                  refine (valid_any (E' q) v0 v1 v2 _).mono ?_
                                  rintro e w8 ⟨rfl, hw8⟩
                                  rw [hw8]
                                  clear hw8 w8
                                  go_wp2
                                  go_round
                                  case rel => exact ⟨q + 1, by omega, by go_num⟩
                                  case measure => simp [intOf]; omega
                                · obtain rfl : n' = q := by omega
                                  clear hge
                                  go_wp2_with fail
                                  refine (canon_any w7 af n' cf E' (by omega) (fun j hj => ⟨by have := (HG.out.valid j hj).1; omega, (HG.out.valid j hj).2.1⟩) HEN7'.out).mono ?_
                                  rintro e w8 ⟨vr1, rfl, hr1, hb8⟩
                                  obtain ⟨r1, k1, rfl, hin1⟩ := hr1.reads
                                  have HR1 := hide hin1
                                  have HB8 := hide hb8
                                  have hs8 := hb8.size
                                  clear hr1 hin1 hb8
                                  go_wp2_with fail
                                  refine (canon_any w8 ae N ce E (by omega) (fun j hj => HE.out j (by omega)) (HEN7.out.below HB8.out)).mono ?_
                                  rintro e w9 ⟨vr2, rfl, hr2, hb9⟩
                                  have HR2 := hide hr2
                                  have HB9 := hide hb9
                                  have hs9 := hb9.size
                                  clear hr2 hb9
                                  go_wp2_with fail
                                  refine (appendRun_any w9 w8.heap.size vr2 (canR E N) k 1 (by have := canR_length E N; omega) hs9 HR2.out).mono ?_
                                  rintro e w10 ⟨vr3, rfl, hr3, hb10⟩
                                  rw [← HG.out.canon] at hr3
                                  obtain ⟨r3, k3, rfl, hin3⟩ := hr3.reads
                                  have HR3 := hide hin3
                                  have HB810 := hide (HB9.out.trans hb10)
                                  have HR1' := hide (HR1.out.below HB810.out)
                                  have hs10 := hb10.size
                                  clear hr3 hin3 hb10 HR1 HR2 HB9
                                  go_wp2_with fail
                                  refine (sameRuns_any w10 r1 r3 k1 k3 (canR E' n') (by have := canR_length E' n'; omega) HR1'.out HR3.out).mono ?_
                                  rintro e w11 ⟨rfl, q11, hw11⟩
                                  rw [hw11]
                                  clear hw11 w11
                                  have hb710 := HB8.out.trans (HB810.out.mono hs8)
                                  have HB10 := hide (HB7.out.trans (hb710.mono HB7.out.size))
                                  have HRG10 := hide (rangeAt_below HRG7.out hb710 (by omega))
                                  have HRF10 := hide (rangeAt_below HRF7.out hb710 (by omega))
                                  have HCH10 := hide (HCH7.out.below hb710 (Nat.le_refl _))
                                  have HCH10' := hide (HCH7'.out.below hb710 (Nat.le_refl _))
                                  have HFR := hide HG.out.frame
                                  clear hb710 HB8 HB810 HB7 HRG7 HRF7 HCH7 HCH7' HEN7 HEN7' HR1' HR3 HG
                                  obtain ⟨P, rfl⟩ : ∃ P, n' = P + 1 := ⟨n' - 1, by omega⟩
                                  go_wp2
                                  go_loopw [29] (fun i wr => ∃ q : Nat, q ≤ 32 ∧ i = .int .i64 q ∧ ∃ t, wr = w10.drewN t) (fun i _ => 32 - (intOf i).toNat)
                                  case atStart => exact ⟨0, by omega, rfl, _, rfl⟩
                                  case round =>
                                    obtain ⟨q, hq7, rfl, t, rfl⟩ := hrel
                                    rcases Nat.lt_or_ge q 32 with hlt | hge
                                    · by_cases hqP : q = P
                                      · subst hqP
                                        go_wp2_with fail
                                        go_quiet (fail)
                                        go_wp2
                                        go_roundw
                                        case rel => exact ⟨q + 1, by omega, by go_num, _, rfl⟩
                                        case measure => simp [intOf]; omega
                                      · have h1 : ¬ ((q : Int) = (P : Int)) := by omega
                                        have h2 : decide ((q : Int) = (P : Int)) = false := by simp; omega
                                        have f1 : w10.cell? ⟨w.heap.size, q, none⟩ = some (.int .u16 (E q)) := by
                                          have := HRG10.out q (.int .u16 (E q)) (by rw [HC.out]; exact first32_get E q hlt)
                                          rwa [Nat.zero_add] at this
                                        have f2 : w10.cell? ⟨w5.heap.size, q, none⟩ = some (.int .u16 (E q)) := by
                                          have := HRF10.out q (.int .u16 (E' q)) (by rw [HC'.out]; exact first32_get E' q hlt)
                                          rw [Nat.zero_add, HFR.out q (by omega) (by omega), if_pos (by omega)] at this
                                          exact this
                                        go_wp2_with fail
                                        go_quiet (fail)
                                        go_wp2
                                        go_roundw
                                        case rel => exact ⟨q + 1, by omega, by go_num, _, rfl⟩
                                        case measure => simp [intOf]; omega
                                    · obtain rfl : q = 32 := by omega
                                      clear hge
                                      go_wp2
                                      go_loop [30] (fun i => ∃ q : Nat, q ≤ c' ∧ i = .int .i64 q) (fun i => c' - (intOf i).toNat)
                                      case atStart => exact ⟨0, by omega, rfl⟩
                                      case round =>
                                        obtain ⟨q, hq8, rfl⟩ := hrel
                                        rcases Nat.lt_or_ge q c' with hlt | hge
                                        · go_wp2
                                          go_loop [31] (fun i => ∃ j : Nat, j ≤ 1024 ∧ i = .int .i64 j) (fun i => 1024 - (intOf i).toNat)
                                          case atStart => exact ⟨0, by omega, rfl⟩
                                          case round =>
                                            obtain ⟨j, hj9, rfl⟩ := hrel
                                            rcases Nat.lt_or_ge j 1024 with hlt2 | hge2
                                            · by_cases hP : 32 + 1024 * q + j = P
                                              · have h1 : (32 : Int) + 1024 * (q : Int) + (j : Int) = (P : Int) := by omega
                                                go_wp2
                                                go_round
                                                case rel => exact ⟨j + 1, by omega, by go_num⟩
                                                case measure => simp [intOf]; omega
                                              · have h1 : ¬ ((32 : Int) + 1024 * (q : Int) + (j : Int) = (P : Int)) := by omega
                                                have hfr := HFR.out (32 + 1024 * q + j) (by omega) (by omega)
                                                obtain ⟨bo2, rfl, _, _, hce2⟩ := HCH10'.out.outer (by omega)
                                                have g1 := hce2 q hlt
                                                have g2 := (HCH10'.out.rows q hlt).cell (i := j) hlt2
                                                clear hce2
                                                rcases Nat.lt_or_ge q c with hqc | hqc
                                                · rw [hfr, if_pos (by omega)] at g2
                                                  obtain ⟨bo1, rfl, _, _, hce1⟩ := HCH10.out.outer (by omega)
                                                  have g3 := hce1 q hqc
                                                  have g4 := (HCH10.out.rows q hqc).cell (i := j) hlt2
                                                  clear hce1 hfr
                                                  go_wp2
                                                  go_round
                                                  case rel => exact ⟨j + 1, by omega, by go_num⟩
                                                  case measure => simp [intOf]; omega
                                                · rw [hfr, if_neg (by omega)] at g2
                                                  clear hfr
                                                  go_wp2
                                                  go_round
                                                  case rel => exact ⟨j + 1, by omega, by go_num⟩
                                                  case measure => simp [intOf]; omega
                                            · obtain rfl : j = 1024 := by omega
                                              clear hge2
                                              go_wp2
                                              go_round
                                              case rel => exact ⟨q + 1, by omega, by go_num⟩
                                              case measure => simp [intOf]; omega
                                        · obtain rfl : c' = q := by omega
                                          clear hge
                                          go_wp2
                                          go_ret
                                          exact ⟨rfl, bdrewN HB10.out _⟩

end Go.Proofs.Qxb6604049a
