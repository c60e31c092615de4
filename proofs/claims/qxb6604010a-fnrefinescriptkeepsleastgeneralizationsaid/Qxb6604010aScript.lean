import Derived.Test.Qxb6604010aMake
import Derived.Test.Qxb6604010aIsLeast
import Derived.Deep.RegionWith
namespace Go.Proofs.Qxb6604010a
open Go.RowKit Go.Maps

set_option maxHeartbeats 400000 in
theorem bytes20_zero (a : Option Addr) (C : Nat) (w : World) :
    Calls Try.prog 20 #[.slice a 0 C] w fun e w' => IsBool e ∧ w' = w := by
  go_enter Try.func20, Try.ntmps20
  go_wp2
  refine wp_loop_rounds 1 ?_
  rw [rounds_succ]
  go_wp2
  go_ret
  exact ⟨⟨_, rfl⟩, rfl⟩

set_option maxHeartbeats 400000 in
/-- The law at no facts. -/
theorem script_zero (a : Option Addr) (C : Nat) (w : World) :
    Calls Try.prog 5 #[.slice a 0 C] w fun e w' => e = .returned (.bool true) ∧ Below w.heap.size w w' := by
  go_enter Try.func5, Try.ntmps5
  go_wp2_with fail
  refine (bytes20_zero a C _).mono ?_
  rintro e w' ⟨⟨r, rfl⟩, rfl⟩
  cases r
  · go_wp2
    go_ret
    exact ⟨rfl, Below.refl _ _⟩
  · go_wp2
    refine wp_loop_rounds 1 ?_
    rw [rounds_succ]
    go_wp2
    go_ret
    exact ⟨rfl, Below.refl _ _⟩

set_option maxHeartbeats 2000000 in
/-- The law at one fact or more. -/
theorem script_pos (bf fo n Cf : Nat) (A : Nat → Option Addr) (L C : Nat → Nat) (Z : Nat → Nat → Int) (w : World) (hn1 : 1 ≤ n) (hnC : n ≤ Cf) (hF : Facts w bf fo n A L C Z)
    (hnil : ∀ r, r < n → A r = none → L r = 0 ∧ C r = 0) (hwf : ∀ r, r < n → ∀ j, j < L r → (Lit.int .i32 (Z r j)).wf = true) :
    Calls Try.prog 5 #[.slice (some ⟨bf, fo, none⟩) n Cf] w fun e w' => e = .returned (.bool true) ∧ Below w.heap.size w w' := by
  have HF := hide hF
  have HN := hide hnil
  have HW := hide hwf
  have hbf := hF.1
  clear hF hnil hwf
  go_enter Try.func5, Try.ntmps5
  go_wp2_with fail
  refine (bytes20_any bf fo n Cf A L C Z _ HF.out).mono ?_
  rintro e w1 ⟨⟨r, rfl⟩, hw1⟩
  rw [hw1]
  clear hw1 w1
  cases r
  · go_wp2
    go_ret
    exact ⟨rfl, Below.refl _ _⟩
  rcases Nat.lt_or_ge 65536 n with hn2 | hn2
  · go_wp2
    go_ret
    exact ⟨rfl, Below.refl _ _⟩
  rcases Nat.lt_or_ge 1048576 (n * 24) with hn3 | hn3
  · go_wp2
    go_ret
    exact ⟨rfl, Below.refl _ _⟩
  have hn0 : ((n : Int) == 0) = false := beq_eq_false_iff_ne.2 (by omega)
  go_wp2
  go_loop [3, 4] (fun s i => ∃ (k : Nat) (m : Int), k ≤ n ∧ i = .int .i64 k ∧ s = .int .i64 m ∧ 0 ≤ m ∧ m ≤ 1048576) (fun _ i => n - (intOf i).toNat)
  case atStart => exact ⟨0, n * 24, Nat.zero_le _, rfl, rfl, by omega, by omega⟩
  case round =>
    obtain ⟨k, m, hk, rfl, rfl, hm0, hm⟩ := hrel
    by_cases hlt : k < n
    · have c1 := (HF.out.2 k hlt).1
      go_wp2
      · go_ret
        exact ⟨rfl, Below.refl _ _⟩
      · go_ret
        exact ⟨rfl, Below.refl _ _⟩
      · go_round
        case rel => exact ⟨k + 1, _, by omega, by go_num, rfl, by omega, by assumption⟩
        case measure => simp [intOf]; omega
    clear hm0 hm
    have c0 : w.cell? ⟨bf, fo, none⟩ = some (.slice (A 0) (L 0) (C 0)) := (HF.out.2 0 (by omega)).1
    go_wp2
    go_loop [6] (fun i => ∃ (k : Nat), 1 ≤ k ∧ k ≤ n ∧ i = .int .i64 k ∧ ∀ r, r < k → L r = L 0) (fun i => n - (intOf i).toNat)
    case atStart => exact ⟨1, Nat.le_refl _, hn1, rfl, fun r hr => by rw [show r = 0 by omega]⟩
    case round =>
      obtain ⟨k, hk1, hk, rfl, hag⟩ := hrel
      have HA := hide hag
      clear hag
      by_cases hlt : k < n
      · have c1 := (HF.out.2 k hlt).1
        go_wp2
        · go_ret
          exact ⟨rfl, Below.refl _ _⟩
        · rename_i hx
          go_round
          case rel =>
            refine ⟨k + 1, by omega, by omega, by go_num, fun r hr => ?_⟩
            rcases Nat.lt_succ_iff_lt_or_eq.1 hr with h | h
            · exact HA.out r h
            · subst h; simp at hx; omega
          case measure => simp [intOf]; omega
      have HL := hide (show ∀ r, r < n → L r = L 0 from fun r hr => HA.out r (by omega))
      rcases Nat.lt_or_ge 4096 (L 0) with hw | hw
      · go_wp2
        go_ret
        exact ⟨rfl, Below.refl _ _⟩
      have hmv := run_make_row' (P := Try.prog) 28 4 (.bool false) 1 Try.underlying28 info4 rfl .i64 .i64 (L 0) (by omega) (by omega)
      have hms := run_make_row' (P := Try.prog) 29 3 (.int .i64 0) 8 Try.underlying29 info3 rfl .i64 .i64 (L 0) (by omega) (by omega)
      go_wp2
      clear hmv hms
      go_loopw [9] (fun i wr => ∃ k : Nat, k ≤ L 0 ∧ i = .int .i64 k ∧ wr.rowIs w.heap.size 4 (L 0) (fun _ => .bool false) ∧ wr.rowIs (w.heap.size + 1) 3 (L 0) (fun j => .int .i64 (if j < k then (la 1 Z j : Nat) else 0)) ∧ Below w.heap.size w wr) (fun i _ => L 0 - (intOf i).toNat)
      case atStart =>
        refine ⟨0, Nat.zero_le _, rfl, (World.rowIs_made _ _ _ _).alloc _, ?_, ((Below.refl _ _).alloc (Nat.le_refl _) _).alloc (by simp) _⟩
        have := World.rowIs_made (w.alloc (.cells (madeCells #[.bool false] (L 0)) 4)) (.int .i64 0) (L 0) 3
        rw [show (w.alloc (.cells (madeCells #[.bool false] (L 0)) 4)).heap.size = w.heap.size + 1 by simp] at this
        exact this.congr (by simp)
      case round =>
        obtain ⟨k, hk, rfl, hrv, hrs, hb⟩ := hrel
        have RV := hide hrv
        have RS := hide hrs
        have HB := hide hb
        have hsz := hrs.lt
        clear hrv hrs hb c0
        by_cases hlt : k < L 0
        · have c1 := RS.out.cell hlt
          have c2 := RS.out.frozen k
          go_wp2_with fail
          refine (least_any bf fo 1 Cf A L C Z k _ (by omega) (by omega) (fun r hr => by rw [HL.out r (by omega)]; exact hlt) ((HF.out.below HB.out).le hn1)).mono ?_
          rintro e w1 ⟨rfl, q, rfl⟩
          go_wp2
          go_roundw
          case rel =>
            refine ⟨k + 1, by omega, by go_num, RV.out.setOther (by simp) _, (RS.out.set k _).congr (fun j hj => ?_), (bdrewN HB.out q).setCell (by simp) _⟩
            by_cases e : j = k
            · subst e; simp
            · by_cases h2 : j < k
              · simp [e, h2, show j < k + 1 by omega]
              · simp [e, h2, show ¬ j < k + 1 by omega]
          case measure => simp [intOf]; omega
        have RS1 := hide (RS.out.congr (g := fun j => .int .i64 (la 1 Z j : Nat)) (fun j hj => by simp [show j < k by omega]))
        have F1 := hide (HF.out.below HB.out)
        have c0 : wr.cell? ⟨bf, fo, none⟩ = some (.slice (A 0) (L 0) (C 0)) := (F1.out.2 0 (by omega)).1
        clear RS
        go_wp2_with fail
        refine (make_any 0 (A 0) (L 0) (C 0) (Z 0) _ _ (some ⟨w.heap.size, 0, none⟩) (L 0) (L 0) (some ⟨w.heap.size + 1, 0, none⟩) (L 0) (L 0) rfl rfl _ (by omega) (HN.out 0 (by omega)) (F1.out.2 0 (by omega)).2).mono ?_
        rintro e w1 ⟨g, a0, C0, rfl, hg1, hg2, d0, d1, d2, d3, hn0', hrow, hb1⟩
        have hbv := RV.out.lt
        have G0 : Hid (Gen w1 g 0 a0 (L 0) C0 (Z 0) w.heap.size (L 0) (L 0) (w.heap.size + 1) (L 0) (L 0) (vary 1 Z) (fun j => (la 1 Z j : Nat))) := hide {
          c0 := d0, c1 := d1, c2 := d2, c3 := d3, nil0 := hn0'
          row0 := by
            rcases hrow with h | ⟨b, t, ha, hB, hr⟩
            · exact .inl h
            · exact .inr ⟨b, 0, ha, hr.lt, by omega, by omega, fun j hj => by rw [Nat.zero_add]; exact hr.cell hj⟩
          rv := (RV.out.of_block (hb1.block _ (by omega))).congr (fun j _ => by rw [vary_one])
          rs := RS1.out.of_block (hb1.block _ hsz)
          hg := hg2, gv := by omega, gs := by omega, vs := by omega
          wf := fun j hj => by have := la_le 1 Z j; exact WalkArith.wf_i64 (by omega) }
        have B1 := hide (HB.out.trans (hb1.mono (by omega)))
        clear d0 d1 d2 d3 hn0' hrow hb1 c0
        go_wp2
        go_loopw [11] (fun i wr => ∃ k : Nat, 1 ≤ k ∧ k ≤ n ∧ i = .int .i64 k ∧ Gen wr g 0 a0 (L 0) C0 (Z 0) w.heap.size (L 0) (L 0) (w.heap.size + 1) (L 0) (L 0) (vary k Z) (fun j => (la k Z j : Nat)) ∧ Below w.heap.size w wr) (fun i _ => n - (intOf i).toNat)
        case atStart => exact ⟨1, Nat.le_refl _, hn1, rfl, G0.out, B1.out⟩
        case round =>
          rename_i wr0 wr
          obtain ⟨k, hk1, hk, rfl, hG, hb⟩ := hrel
          have HG := hide hG
          have HB2 := hide hb
          clear hG hb G0 B1 F1 RS1 RV HB
          have F2 := hide (HF.out.below HB2.out)
          by_cases hlt : k < n
          · have c1 : wr.cell? ⟨bf, fo + k, none⟩ = some (.slice (A k) (L 0) (C k)) := by have := (F2.out.2 k hlt).1; rw [HL.out k hlt] at this; exact this
            go_wp2_with fail
            refine (zzrefine_any g 0 a0 (L 0) C0 (Z 0) w.heap.size (L 0) (L 0) (w.heap.size + 1) (L 0) (L 0) _ _ (A k) (L 0) (C k) (Z k) _ HG.out (by omega) (Nat.le_refl _) (Nat.le_refl _) (Nat.le_refl _) (by omega) (by have := HN.out k hlt; rw [HL.out k hlt] at this; exact this)
              (by have := (F2.out.2 k hlt).2; rw [HL.out k hlt] at this; exact this) (by have := HW.out k hlt; rw [HL.out k hlt] at this; exact this)).mono ?_
            rintro e w2 ⟨rfl, hG2, hk2⟩
            have HG2 := hide hG2
            have HK2 := hide hk2
            clear hG2 hk2
            go_wp2
            go_roundw
            case rel =>
              refine ⟨k + 1, by omega, by omega, by go_num, HG2.out.congr (fun j hj => ?_) (fun j hj => ?_), HB2.out.trans (HK2.out.below HB2.out.size (fun x hx => by omega))⟩
              · simp [vAt, hj, vary_succ]
              · simp only [sAt, hj, if_true]; rw [tied_la]
            case measure => simp [intOf]; omega
          obtain rfl : k = n := by omega
          have c3 : wr.cell? ⟨bf, fo + (k - 1), none⟩ = some (.slice (A (k - 1)) (L 0) (C (k - 1))) := by have := (F2.out.2 (k - 1) (by omega)).1; rw [HL.out (k - 1) (by omega)] at this; exact this
          go_wp2_with fail
          refine (isLeast_yes bf fo k Cf w.heap.size (w.heap.size + 1) (L 0) A L C Z _ hn1 (by omega) (by omega) HL.out F2.out (fun j hj => HG.out.rv.cell hj) (fun j hj => HG.out.rs.cell hj)).mono ?_
          rintro e w2 ⟨rfl, q, rfl⟩
          go_wp2_with fail
          refine (zzrefine_any g 0 a0 (L 0) C0 (Z 0) w.heap.size (L 0) (L 0) (w.heap.size + 1) (L 0) (L 0) _ _ (A (k - 1)) (L 0) (C (k - 1)) (Z (k - 1)) _ (HG.out.drewN q) (by omega) (Nat.le_refl _) (Nat.le_refl _) (Nat.le_refl _) (by omega) (by have := HN.out (k - 1) (by omega); rw [HL.out (k - 1) (by omega)] at this; exact this)
            (by have := (F2.out.2 (k - 1) (by omega)).2; rw [HL.out (k - 1) (by omega)] at this; exact this) (by have := HW.out (k - 1) (by omega); rw [HL.out (k - 1) (by omega)] at this; exact this)).mono ?_
          rintro e w3 ⟨rfl, hG3, hk3⟩
          have HG3 := hide (hG3.congr (V' := vary k Z) (S' := fun j => (la k Z j : Nat)) (fun j hj => by simp only [vAt, hj, if_true]; exact vary_again k (k - 1) (by omega) Z j) (fun j hj => by simp only [sAt, hj, if_true]; rw [tied_again k (k - 1) (by omega)]))
          have HB3 := hide ((bdrewN HB2.out q).trans (hk3.below (B := w.heap.size) HB2.out.size (fun x hx => by omega)))
          have F3 := hide (HF.out.below HB3.out)
          clear hG3 hk3 c3
          go_wp2_with fail
          refine (isLeast_yes bf fo k Cf w.heap.size (w.heap.size + 1) (L 0) A L C Z _ hn1 (by omega) (by omega) HL.out F3.out (fun j hj => HG3.out.rv.cell hj) (fun j hj => HG3.out.rs.cell hj)).mono ?_
          rintro e w4 ⟨rfl, q2, rfl⟩
          have c0 : w3.cell? ⟨bf, fo, none⟩ = some (.slice (A 0) (L 0) (C 0)) := (F3.out.2 0 (by omega)).1
          have c1 := HG3.out.c1
          go_wp2
          have hkpos : 0 < k := hn1
          go_region_with (first | (go_at_call 19; refine (genFirst_any g a0 (L 0) C0 (Z 0) _ (by exact HG3.out.c1) (by omega) (by exact HG3.out.nil0) (by exact HG3.out.row)).mono ?_; rintro e w5 ⟨a5, C5, rfl, hr5, hb5⟩; have c5 := (hb5.cell (p := ⟨bf, fo, none⟩) (by exact F3.out.1)).trans c0; have R0 := hide (((F3.out.drewN _).2 0 hkpos).2.below hb5); have B5 := hide ((bdrewN HB3.out _).trans (hb5.mono (by exact HB3.out.size))); have R5 := hide hr5; clear hr5 hb5) | (go_at_call 18; refine (equal_same _ _ (L 0) _ _ (Z 0) _ (by omega) (by exact R5.out) (by exact R0.out)).mono ?_; rintro e w6 ⟨rfl, q6, rfl⟩))
          all_goals
            go_wp2
            go_ret
            exact ⟨rfl, bdrewN B5.out _⟩

end Go.Proofs.Qxb6604010a
