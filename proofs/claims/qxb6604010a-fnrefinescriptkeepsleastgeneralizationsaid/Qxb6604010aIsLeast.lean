import Derived.Test.Qxb6604010aReads
namespace Go.Proofs.Qxb6604010a
open Go.RowKit

set_option maxHeartbeats 1000000 in
/-- zzIsLeastGeneralization where 'varies' and 'same' are what they should be. -/
theorem isLeast_yes (bf fo n Cf bv bs N : Nat) (A : Nat → Option Addr) (L C : Nat → Nat) (Z : Nat → Nat → Int) (w : World) (hn1 : 1 ≤ n) (hn : n ≤ 1048576) (hN : N ≤ 1048576) (hl : ∀ r, r < n → L r = N) (hF : Facts w bf fo n A L C Z)
    (hv : ∀ j, j < N → w.cell? ⟨bv, j, none⟩ = some (.bool (vary n Z j))) (hs : ∀ j, j < N → w.cell? ⟨bs, j, none⟩ = some (.int .i64 (la n Z j))) :
    Calls Try.prog 22 #[.slice (some ⟨bf, fo, none⟩) n Cf, .slice (some ⟨bv, 0, none⟩) N N, .slice (some ⟨bs, 0, none⟩) N N] w fun e w' => e = .returned (.bool true) ∧ ∃ q, w' = w.drewN q := by
  have c0 : w.cell? ⟨bf, fo, none⟩ = some (.slice (A 0) N (C 0)) := by have := (hF.2 0 (by omega)).1; rw [hl 0 (by omega)] at this; exact this
  have HL : Hid (∀ r, r < n → L r = N) := hl
  have HF : Hid (Facts w bf fo n A L C Z) := hF
  have HV : Hid (∀ j, j < N → w.cell? ⟨bv, j, none⟩ = some (.bool (vary n Z j))) := hv
  have HS : Hid (∀ j, j < N → w.cell? ⟨bs, j, none⟩ = some (.int .i64 (la n Z j))) := hs
  clear hl hF hv hs
  go_enter Try.func22, Try.ntmps22
  go_wp2
  clear c0
  go_loopw [8] (fun i wr => ∃ k : Nat, k ≤ N ∧ i = .int .i64 k ∧ ∃ q, wr = w.drewN q) (fun i _ => N - (intOf i).toNat)
  case atStart => exact ⟨0, Nat.zero_le _, rfl, 0, rfl⟩
  case round =>
    obtain ⟨k, hk, rfl, q, rfl⟩ := hrel
    by_cases hlt : k < N
    · go_wp2
      go_loopw [9, 10] (fun d i wr => ∃ m : Nat, 1 ≤ m ∧ m ≤ n ∧ i = .int .i64 m ∧ d = .bool false ∧ (∀ i, i < m → Z i k = Z 0 k) ∧ ∃ q, wr = w.drewN q) (fun _ i _ => n - (intOf i).toNat)
      case atStart => exact ⟨1, Nat.le_refl _, hn1, rfl, rfl, fun c hc => by rw [show c = 0 by omega], q, rfl⟩
      case round =>
        obtain ⟨m, hm1, hm, rfl, rfl, hag, q2, rfl⟩ := hrel
        have HA : Hid (∀ i, i < m → Z i k = Z 0 k) := hag
        clear hag
        have hcs := HS.out k hlt
        by_cases hmn : m < n
        · obtain ⟨b, o, _, c1, c2⟩ := HF.out.at hmn (by rw [HL.out m hmn]; omega)
          obtain ⟨b0, o0, _, c3, c4⟩ := HF.out.at (r := 0) (by omega) (by rw [HL.out 0 (by omega)]; omega)
          rw [HL.out m hmn] at c1 c2
          rw [HL.out 0 (by omega)] at c3 c4
          rw [Nat.add_zero] at c3
          have c2 := c2 k hlt
          have c4 := c4 k hlt
          cases hd : (Z m k != Z 0 k)
          · go_wp2
            go_quiet (fail)
            go_wp2
            go_roundw
            case rel =>
              refine ⟨m + 1, by omega, by omega, by go_num, rfl, fun i hi => ?_, _, rfl⟩
              rcases Nat.lt_succ_iff_lt_or_eq.1 hi with h | h
              · exact HA.out i h
              · subst h; simpa using hd
            case measure => simp [intOf]; omega
          · have hcv := HV.out k hlt
            rw [vary_true hmn hd] at hcv
            go_wp2
            go_quiet (fail)
            go_wp2
            clear c1 c2 c3 c4 hcv hd
            go_quiet ((go_at_call 21; refine quiet_at (least_any bf fo n Cf A L C Z k _ hn (by omega) (fun r hr => by rw [HL.out r hr]; exact hlt) (HF.out.drewN _))))
            go_wp2
            go_roundw
            case rel => exact ⟨k + 1, by omega, by go_num, _, rfl⟩
            case measure => simp [intOf]; omega
        · have hmn' : m = n := by omega
          subst hmn'
          have hcv := HV.out k hlt
          rw [vary_false HA.out] at hcv
          go_wp2
          clear hcv
          go_quiet ((go_at_call 21; refine quiet_at (least_any bf fo m Cf A L C Z k _ hn (by omega) (fun r hr => by rw [HL.out r hr]; exact hlt) (HF.out.drewN _))))
          go_wp2
          go_roundw
          case rel => exact ⟨k + 1, by omega, by go_num, _, rfl⟩
          case measure => simp [intOf]; omega
    · go_wp2
      go_ret
      exact ⟨rfl, _, rfl⟩

end Go.Proofs.Qxb6604010a
