import Derived.Test.Qxb6604010aCopy
import Derived.Test.Qxb6604010aStep
namespace Go.Proofs.Qxb6604010a
open Go.RowKit Go.Maps

set_option maxRecDepth 100000 in
set_option maxHeartbeats 2000000 in
theorem model_main (sp : Int) (a1 a2 a3 a4 : Option Addr) (L1 C1 L2 C2 L3 C3 L4 C4 : Nat) (Z0 F S : Nat → Int) (V : Nat → Bool) (w : World)
    (n1 : a1 = none → L1 = 0 ∧ C1 = 0) (n2 : a2 = none → L2 = 0 ∧ C2 = 0) (n3 : a3 = none → L3 = 0 ∧ C3 = 0) (n4 : a4 = none → L4 = 0 ∧ C4 = 0)
    (r1 : Row w a1 L1 Z0) (r2 : RowV w a2 L2 (fun j => .bool (V j))) (r3 : RowV w a3 L3 (fun j => .int .i64 (S j))) (r4 : Row w a4 L4 F)
    (wF : ∀ j, j < L4 → (Lit.int .i32 (F j)).wf = true) (wS : ∀ j, j < L3 → (Lit.int .i64 (S j)).wf = true)
    (h1 : L1 ≤ 4096) (h2 : L2 ≤ 4096) (h3 : L3 ≤ 4096) (h4 : L4 ≤ 4096) (g1 : L4 ≤ L1) (g2 : L4 ≤ L2) (g3 : L4 ≤ L3) :
    Calls Try.prog 4 #[.int .i32 sp, .slice a1 L1 C1, .slice a2 L2 C2, .slice a3 L3 C3, .slice a4 L4 C4] w fun e w' => e = .returned (.bool true) ∧ Below w.heap.size w w' := by
  have N1 := hide n1
  have N2 := hide n2
  have N3 := hide n3
  have N4 := hide n4
  have R1 := hide r1
  have R2 := hide r2
  have R3 := hide r3
  have R4 := hide r4
  have WF := hide wF
  have WS := hide wS
  clear n1 n2 n3 n4 r1 r2 r3 r4 wF wS
  go_enter Try.func4, Try.ntmps4
  go_wp2_with fail
  refine (bytes12_any sp a1 a2 a3 a4 L1 C1 L2 C2 L3 C3 L4 C4 _).mono ?_
  rintro e w1 ⟨⟨r, rfl⟩, hw1⟩
  rw [hw1]
  clear hw1 w1
  cases r
  · go_wp2
    go_ret
    exact ⟨rfl, Below.refl _ _⟩
  go_upto_if 66 with fail
  go_cut [1] (fun v wc => ∃ a C, v = .slice a L1 C ∧ (a = none → L1 = 0 ∧ C = 0) ∧ Row wc a L1 Z0 ∧ Below w.heap.size w wc)
  case first =>
    cases a1 with
    | none =>
      have HX := hide (N1.out rfl)
      go_wp2
      go_meet
      case rel => exact ⟨none, C1, rfl, fun _ => HX.out, R1.out, Below.refl _ _⟩
    | some x =>
      have hmk := run_make_row' (P := Try.prog) 27 21 (.int .i32 0) 4 Try.underlying27 info21 rfl .i64 .i64 L1 (by omega) (by omega)
      obtain ⟨w1, hcp, hrow, hb⟩ := copy_made w x L1 C1 Z0 R1.out
      have HR := hide hrow
      have HB := hide hb
      clear hrow hb
      go_wp2
      go_meet
      case rel => exact ⟨_, _, rfl, by simp, .inr ⟨_, 0, rfl, HR.out.lt, fun j hj => by rw [Nat.zero_add]; exact HR.out.cell hj⟩, HB.out⟩
  case rest =>
    obtain ⟨b1, D1, rfl, hn, hr, hb⟩ := hcut
    have M1 := hide hn
    have Q1 := hide hr
    have B1 := hide hb
    clear hn hr hb N1 R1
    have Q4 := hide (R4.out.below B1.out)
    rename_i wc
    have hB1 := B1.out.size
    go_upto_if 75 with fail
    go_cut [4] (fun v wc2 => ∃ a C, v = .slice a L4 C ∧ (a = none → L4 = 0 ∧ C = 0) ∧ Row wc2 a L4 F ∧ Below wc.heap.size wc wc2)
    case first =>
      cases a4 with
      | none =>
        have HX := hide (N4.out rfl)
        go_wp2
        go_meet
        case rel => exact ⟨none, C4, rfl, fun _ => HX.out, Q4.out, Below.refl _ _⟩
      | some x =>
        have hmk := run_make_row' (P := Try.prog) 27 21 (.int .i32 0) 4 Try.underlying27 info21 rfl .i64 .i64 L4 (by omega) (by omega)
        obtain ⟨w1, hcp, hrow, hb⟩ := copy_made wc x L4 C4 F Q4.out
        have HR := hide hrow
        have HB := hide hb
        clear hrow hb
        go_wp2
        go_meet
        case rel => exact ⟨_, _, rfl, by simp, .inr ⟨_, 0, rfl, HR.out.lt, fun j hj => by rw [Nat.zero_add]; exact HR.out.cell hj⟩, HB.out⟩
    case rest =>
      obtain ⟨b4, D4, rfl, hn, hr, hb⟩ := hcut
      have M4 := hide hn
      have P4 := hide hr
      have B2 := hide (B1.out.trans (hb.mono hB1))
      have P1 := hide (Q1.out.below hb)
      clear hn hr hb Q1 Q4 B1 hB1 N4 R4
      rename_i wc
      go_wp2_with fail
      refine (cloneBools_any a2 L2 C2 V _ (by omega) N2.out (R2.out.below B2.out)).mono ?_
      rintro e w1 ⟨b2, D2, rfl, ov, hb1⟩
      have OV := hide ov
      have HB1 := hide hb1
      clear ov hb1
      go_wp2_with fail
      refine (cloneInts_any a3 L3 C3 S _ (by omega) N3.out ((R3.out.below B2.out).below HB1.out)).mono ?_
      rintro e w2 ⟨b3, D3, rfl, os, hb2⟩
      have OS := hide os
      have HB2 := hide hb2
      clear os hb2
      go_wp2_with fail
      refine (make_any sp b1 L1 D1 Z0 _ _ b2 L2 D2 b3 L3 D3 rfl rfl _ (by omega) M1.out ((P1.out.below HB1.out).below HB2.out)).mono ?_
      rintro e w3 ⟨g, a0, C0, rfl, hg1, hg2, d0, d1, d2, d3, hn0, hr0, hb3⟩
      have HD := hide (And.intro d0 (And.intro d1 (And.intro d2 d3)))
      have HN0 := hide hn0
      have HR0 := hide hr0
      have HB3 := hide hb3
      clear d0 d1 d2 d3 hn0 hr0 hb3
      have BW3 := hide ((HB1.out.trans (HB2.out.mono HB1.out.size)).trans (HB3.out.mono (Nat.le_trans HB1.out.size HB2.out.size)))
      go_wp2_with fail
      refine (step_any wc.heap.size w1.heap.size w2.heap.size g sp a0 L1 C0 Z0 b2 L2 D2 V b3 L3 D3 S b4 L4 D4 F _ HD.out.1 HD.out.2.1 HD.out.2.2.1 HD.out.2.2.2 HB1.out.size HB2.out.size hg1 hg2 HN0.out HR0.out
        ((OV.out.below HB2.out (Nat.le_refl _)).below HB3.out (Nat.le_refl _)) (fun b hb => ?_) (OS.out.below HB3.out (Nat.le_refl _)) (fun b hb => ?_) M4.out (P4.out.below BW3.out) (by omega) (by omega) g1 g2 g3 WF.out WS.out).mono ?_
      · rcases OV.out with ⟨hx, _⟩ | ⟨b', hx, _, hr⟩
        · rw [hx] at hb; cases hb
        · rw [hx] at hb; cases hb; exact hr.lt
      · rcases OS.out with ⟨hx, _⟩ | ⟨b', hx, _, hr⟩
        · rw [hx] at hb; cases hb
        · rw [hx] at hb; cases hb; exact hr.lt
      rintro e w4 ⟨rfl, q2, q3, e0, e1, q1, hb4⟩
      have BW := hide (BW3.out.trans hb4)
      have B4 := hide (B2.out.trans (BW.out.mono B2.out.size))
      have A2 := hide (R2.out.below B4.out)
      have A3 := hide (R3.out.below B4.out)
      have E1 := hide (P1.out.below BW.out)
      have E4 := hide (P4.out.below BW.out)
      have G2 := hide q2
      have G3 := hide q3
      have G0 := hide (And.intro e0 (And.intro e1 q1))
      clear q2 q3 e0 e1 q1 hb4 BW BW3 HD HR0 HB1 HB2 HB3 OV OS P1 P4 B2 R2 R3 M4 N2 N3 M1
      go_wp2
      go_loopw [16] (fun i wr => ∃ k : Nat, k ≤ L2 ∧ i = .int .i64 k ∧ ∃ q, wr = w4.drewN q) (fun i _ => L2 - (intOf i).toNat)
      case atStart => exact ⟨0, Nat.zero_le _, rfl, 0, rfl⟩
      case round =>
        obtain ⟨k, hk, rfl, q, rfl⟩ := hrel
        by_cases hlt : k < L2
        · rcases A2.out with h | ⟨x2, y2, rfl, _, cc⟩
          · omega
          have c2 := cc k hlt
          clear cc
          rcases G2.out with h | ⟨x2', y2', rfl, _, cc⟩
          · omega
          have c2' := cc k hlt
          clear cc
          by_cases hl4 : k < L4
          · rcases E4.out with h | ⟨x4, y4, rfl, _, cc⟩
            · omega
            have c4 := cc k hl4
            clear cc
            rcases E1.out with h | ⟨x1, y1, rfl, _, cc⟩
            · omega
            have c1 := cc k (by omega)
            clear cc
            simp only [vAt, hl4, if_true] at c2'
            cases hd : (F k != Z0 k)
            · rw [hd, Bool.or_false] at c2'
              go_wp2
              go_quiet (fail)
              go_wp2
              go_roundw
              case rel => exact ⟨k + 1, by omega, by go_num, _, rfl⟩
              case measure => simp [intOf]; omega
            · rw [hd, Bool.or_true] at c2'
              go_wp2
              go_quiet (fail)
              go_wp2
              go_roundw
              case rel => exact ⟨k + 1, by omega, by go_num, _, rfl⟩
              case measure => simp [intOf]; omega
          · have hg4 : decide ((k : Int) < (L4 : Int)) = false := by simp; omega
            simp only [vAt, hl4, if_false] at c2'
            go_wp2
            go_quiet (fail)
            go_wp2
            go_roundw
            case rel => exact ⟨k + 1, by omega, by go_num, _, rfl⟩
            case measure => simp [intOf]; omega
        clear G2 A2
        go_wp2
        go_loopw [18] (fun i wr => ∃ k : Nat, k ≤ L3 ∧ i = .int .i64 k ∧ ∃ q, wr = w4.drewN q) (fun i _ => L3 - (intOf i).toNat)
        case atStart => exact ⟨0, Nat.zero_le _, rfl, q, rfl⟩
        case round =>
          obtain ⟨k, hk, rfl, q, rfl⟩ := hrel
          by_cases hlt : k < L3
          · rcases A3.out with h | ⟨x3, y3, rfl, _, cc⟩
            · omega
            have c3 := cc k hlt
            have HC3 := hide cc
            clear cc
            rcases G3.out with h | ⟨x3', y3', rfl, _, cc⟩
            · omega
            have c3' := cc k hlt
            clear cc
            by_cases hl4 : k < L4
            · rcases E4.out with h | ⟨x4, y4, rfl, _, cc⟩
              · omega
              have c4 := cc k hl4
              have HC4 := hide cc
              clear cc
              simp only [sAt, hl4, if_true] at c3'
              go_wp2
              go_loopw [20] (fun i wr => ∃ m : Nat, m ≤ k ∧ i = .int .i64 m ∧ (∀ c, c < m → ¬ (S c = S k ∧ F c = F k)) ∧ ∃ q, wr = w4.drewN q) (fun i _ => k - (intOf i).toNat)
              case atStart => exact ⟨0, Nat.zero_le _, rfl, fun c hc => absurd hc (Nat.not_lt_zero _), q, rfl⟩
              case round =>
                obtain ⟨m, hm, rfl, hno, q, rfl⟩ := hrel
                have HNO := hide hno
                clear hno
                have c5 := HC3.out m (by omega)
                have c6 := HC4.out m (by omega)
                have hno1 : (S m == S k) = false ∨ (F m == F k) = false → m < k ∧ ∀ c, c < m + 1 → ¬ (S c = S k ∧ F c = F k) := by
                  intro h
                  have hmk : m ≠ k := by rintro rfl; simp at h
                  refine ⟨by omega, fun c hc => ?_⟩
                  rcases Nat.lt_succ_iff_lt_or_eq.1 hc with h' | h'
                  · exact HNO.out c h'
                  · subst h'
                    rintro ⟨x1, x2⟩
                    rw [x1, x2] at h
                    simp at h
                have HN1 := hide hno1
                clear hno1
                cases hs : (S m == S k)
                · have HX := hide (HN1.out (.inl hs))
                  go_wp2
                  go_quiet (fail)
                  go_wp2
                  go_roundw
                  case rel => exact ⟨m + 1, by have := HX.out.1; omega, by go_num, HX.out.2, _, rfl⟩
                  case measure => have := HX.out.1; simp [intOf]; omega
                · cases hf : (F m == F k)
                  · have HX := hide (HN1.out (.inr hf))
                    go_wp2
                    go_quiet (fail)
                    go_wp2
                    go_roundw
                    case rel => exact ⟨m + 1, by have := HX.out.1; omega, by go_num, HX.out.2, _, rfl⟩
                    case measure => have := HX.out.1; simp [intOf]; omega
                  · have ht : tied S F k = m := by
                      rcases Nat.lt_or_ge m k with hlt' | hge
                      · exact least_hit (p := fun a => S a == S k && F a == F k) hlt' (by simp [hs, hf]) (fun c hc => tie_n.2 (HNO.out c hc))
                      · have e : m = k := by omega
                        subst e
                        exact least_none (p := fun a => S a == S m && F a == F m) (fun c hc => tie_n.2 (HNO.out c hc))
                    rw [ht] at c3'
                    clear ht
                    go_wp2
                    go_quiet (fail)
                    go_wp2
                    go_roundw
                    case rel => exact ⟨k + 1, by omega, by go_num, _, rfl⟩
                    case measure => simp [intOf]; omega
            · simp only [sAt, hl4, if_false] at c3'
              go_wp2
              go_roundw
              case rel => exact ⟨k + 1, by omega, by go_num, _, rfl⟩
              case measure => simp [intOf]; omega
          go_wp2_with fail
          refine (genSpeaker_any g sp _ (by exact G0.out.1)).mono ?_
          rintro e w5 ⟨rfl, hw5⟩
          rw [hw5]
          clear hw5 w5
          go_wp2_with fail
          refine (genFirst_any g a0 L1 C0 Z0 _ (by exact G0.out.2.1) (by omega) HN0.out (by exact G0.out.2.2)).mono ?_
          rintro e w6 ⟨a6, C6, rfl, hr6, hb6⟩
          have R6 := hide hr6
          have B6 := hide hb6
          clear hr6 hb6
          go_wp2_with fail
          refine (equal_same a6 b1 L1 C6 D1 Z0 _ (by omega) R6.out (Row.below (w := w4.drewN q) E1.out B6.out)).mono ?_
          rintro e w7 ⟨rfl, q7, rfl⟩
          go_wp2
          go_ret
          exact ⟨rfl, bdrewN ((bdrewN B4.out q).trans (B6.out.mono B4.out.size)) q7⟩

end Go.Proofs.Qxb6604010a
