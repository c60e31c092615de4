import Derived.Test.Qxb6604049aEnt
import Derived.Test.Qxb6604049aPlain
import Derived.Deep.RegionWith
namespace Go.Proofs.Qxb6604049a
open Go.RowKit

/-- A slice of ints that came in. -/
def Row (w : World) (a : Option Addr) (L : Nat) (Z : Nat → Int) : Prop :=
  L = 0 ∨ ∃ b o, a = some ⟨b, o, none⟩ ∧ b < w.heap.size ∧ ∀ j, j < L → w.cell? ⟨b, o + j, none⟩ = some (.int .i64 (Z j))

theorem Row.below {w w' : World} {a : Option Addr} {L : Nat} {Z : Nat → Int} (h : Row w a L Z) (hb : Below w.heap.size w w') : Row w' a L Z := by
  rcases h with h | ⟨b, o, ha, hl, hc⟩
  · exact .inl h
  · exact .inr ⟨b, o, ha, Nat.lt_of_lt_of_le hl hb.size, fun j hj => (hb.cell (p := ⟨b, o + j, none⟩) hl).trans (hc j hj)⟩

/-- zzBytes of the script: within the bound. -/
theorem bytes_ok (a : Option Addr) (L C : Nat) (h : L ≤ 1048576) (w : World) : Calls Try.prog 13 #[.slice a L C] w fun e w' => e = .returned (.bool true) ∧ w' = w := by
  have h' : ¬ (1048576 : Int) < (L : Int) := by omega
  go_enter Try.func13, Try.ntmps13
  go_wp2
  go_ret
  exact ⟨rfl, rfl⟩
theorem bytes_no (a : Option Addr) (L C : Nat) (h : 1048576 < L) (w : World) : Calls Try.prog 13 #[.slice a L C] w fun e w' => e = .returned (.bool false) ∧ w' = w := by
  have h' : (1048576 : Int) < (L : Int) := by omega
  go_enter Try.func13, Try.ntmps13
  go_wp2
  go_ret
  exact ⟨rfl, rfl⟩

/-- zzValidEntry: a valid entry. -/
theorem valid_any (e : Int) (h2 : 2 ≤ e) (h3 : e ≤ 65535) (h4 : e ≠ 32768) (w : World) : Calls Try.prog 8 #[.int .u16 e] w fun r w' => r = .returned (.bool true) ∧ w' = w := by
  have b1 := and_run e (by omega) h3
  have b2 := andNot_run e (by omega) h3
  by_cases hr : 32768 ≤ e
  · rw [if_pos hr] at b1 b2
    go_enter Try.func8, Try.ntmps8
    go_wp2
    go_ret
    refine ⟨?_, rfl⟩
    simp
    try omega
  · rw [if_neg hr] at b1 b2
    go_enter Try.func8, Try.ntmps8
    go_wp2
    go_ret
    refine ⟨?_, rfl⟩
    simp
    try omega

/-- The script's state behind i counts. -/
def State (Z : Nat → Int) (w : World) (i : Nat) (E : Nat → Int) (n c : Nat) (ao : Option Addr) (cap : Nat) (wr : World) : Prop :=
  ∃ bk, Inv Z i E n c ∧ wr.rangeAt w.heap.size 0 (first32 E) ∧ wr.there w.heap.size 0 32 ∧ Chunks wr (w.heap.size + 1) ao c cap bk E ∧ w.heap.size + 1 ≤ wr.heap.size ∧ Below w.heap.size w wr

theorem first32_zero : (first32 fun _ => 0) = [.int .u16 0, .int .u16 0, .int .u16 0, .int .u16 0, .int .u16 0, .int .u16 0, .int .u16 0, .int .u16 0, .int .u16 0, .int .u16 0, .int .u16 0, .int .u16 0, .int .u16 0, .int .u16 0, .int .u16 0, .int .u16 0, .int .u16 0, .int .u16 0, .int .u16 0, .int .u16 0, .int .u16 0, .int .u16 0, .int .u16 0, .int .u16 0, .int .u16 0, .int .u16 0, .int .u16 0, .int .u16 0, .int .u16 0, .int .u16 0, .int .u16 0, .int .u16 0] := rfl

theorem State.start (Z : Nat → Int) (w : World) : State Z w 0 (fun _ => 0) 0 0 none 0 (w.alloc (.cells #[.int .u16 0, .int .u16 0, .int .u16 0, .int .u16 0, .int .u16 0, .int .u16 0, .int .u16 0, .int .u16 0, .int .u16 0, .int .u16 0, .int .u16 0, .int .u16 0, .int .u16 0, .int .u16 0, .int .u16 0, .int .u16 0, .int .u16 0, .int .u16 0, .int .u16 0, .int .u16 0, .int .u16 0, .int .u16 0, .int .u16 0, .int .u16 0, .int .u16 0, .int .u16 0, .int .u16 0, .int .u16 0, .int .u16 0, .int .u16 0, .int .u16 0, .int .u16 0] 23)) := by
  have hr := World.rangeAt_of_new w (first32 fun _ => 0) 23
  rw [first32_zero] at hr
  refine ⟨fun _ => 0, Inv.start Z, by rw [first32_zero]; exact hr, fun j hj => ?_, ⟨World.ownsRow_nil _ _ _ _, fun _ h => absurd h (by omega), fun _ h => absurd h (by omega), fun _ _ h => absurd h (by omega), fun _ h => absurd h (by omega)⟩, by simp, (Below.refl _ _).alloc (Nat.le_refl _) _⟩
  refine ⟨?_, by rw [Nat.zero_add]; simp⟩
  rw [hr.isSome j (by simpa using hj)]

/-- One push of the script: the new array is stored. -/
theorem State.step {Z : Nat → Int} {w : World} {i : Nat} {E E' : Nat → Int} {n c n' c' : Nat} {ao ao' : Option Addr} {cap cap' : Nat} {wr w1 : World} {bk' : Nat → Nat} (h : State Z w i E n c ao cap wr) (hk1 : 1 ≤ Z i) (hk2 : Z i ≤ 32767) (hp : Pushed E n c (Z i) E' n' c')
    (hch : Chunks w1 (w.heap.size + 1) ao' c' cap' bk' E') (hb : Below (w.heap.size + 1) wr w1) : State Z w (i + 1) E' n' c' ao' cap' (w1.setCells w.heap.size 0 (first32 E')) := by
  obtain ⟨bk, hI, hr, ht, _, hs, hB⟩ := h
  have ht1 : w1.there w.heap.size 0 32 := fun j hj => by
    rw [hb.cell (p := ⟨w.heap.size, 0 + j, none⟩) (by simp), hb.frozen (p := ⟨w.heap.size, 0 + j, none⟩) (by simp)]
    exact ht j hj
  refine ⟨bk', hI.step hk1 hk2 hp, World.rangeAt_setCells_same _ _ _ _ (by rw [first32_length]; exact ht1), World.there_setCells ht1 _ _ _, hch.of_blocks (fun k hk => heap_setCells_other _ _ ?_ _ _ _), ?_, ?_⟩
  · rcases hk with ⟨j, hj, rfl⟩ | hk
    · have := hch.ge j hj; omega
    · have := (hch.own.lt _ hk).1; omega
  · rw [heap_setCells_size]; have := hb.size; omega
  · exact below_setCells _ (Nat.le_refl _) _ _ _ (hB.trans (hb.mono (by omega)))

theorem few_sum (Z : Nat → Int) : ∀ i, (few Z i).1 + (few Z i).2 ≤ i
  | 0 => by simp [few]
  | i + 1 => by
    have := few_sum Z i
    rw [few]
    split <;> simp only <;> omega

theorem pos_mono (E : Nat → Int) (j : Nat) : ∀ m, j ≤ m → pos E j ≤ pos E m
  | 0, h => by rw [show j = 0 by omega]; exact Nat.le_refl _
  | m + 1, h => by
    rcases Nat.lt_or_ge m j with h1 | h1
    · rw [show j = m + 1 by omega]; exact Nat.le_refl _
    · have := pos_mono E j m h1
      rw [pos]; omega

/-- What zzEntries hands back, as it is read. -/
theorem own_read {w : World} {B : Nat} {v : Value} {n : Nat} {E : Nat → Int} (h : w.ownsRow B 22 1 v n (ents E n)) : ∃ a cap, v = .slice a n cap ∧ (n = 0 ∨ ∃ g, a = some ⟨g, 0, none⟩ ∧ ∀ j, j < n → w.cell? ⟨g, j, none⟩ = some (.int .u16 (E j))) := by
  obtain ⟨h1, h2⟩ := h
  rcases h2 with ⟨rfl, rfl⟩ | ⟨g, cap', cur, rfl, hb, hg, hn, hm, hs, ht⟩
  · exact ⟨none, 0, rfl, .inl rfl⟩
  · refine ⟨_, _, rfl, .inr ⟨g, rfl, fun j hj => ?_⟩⟩
    have e1 : cur[j]? = (ents E n)[j]? := by
      rw [← ht, List.getElem?_take_of_lt (by omega)]
      simp
    rw [cell_of_row w g j cur 22 (0, 0) hg, e1, ents_get E n j hj]

set_option maxRecDepth 100000 in
set_option maxHeartbeats 4000000 in
theorem script_any (w : World) (a0 : Option Addr) (L C : Nat) (Z : Nat → Int) (R : Row w a0 L Z) : Calls Try.prog 4 #[.slice a0 L C] w fun e w' => e = .returned (.bool true) ∧ Below w.heap.size w w' := by
  have HR := hide R
  clear R
  rcases Nat.lt_or_ge 1048576 L with hbig | hL
  · go_enter Try.func4, Try.ntmps4
    go_wp2_with fail
    refine (bytes_no a0 L C hbig _).mono ?_
    rintro e w1 ⟨rfl, hw⟩
    rw [hw]
    clear hw w1
    go_wp2
    go_ret
    exact ⟨rfl, Below.refl _ _⟩
  go_enter Try.func4, Try.ntmps4
  go_wp2_with fail
  refine (bytes_ok a0 L C hL _).mono ?_
  rintro e w1 ⟨rfl, hw⟩
  rw [hw]
  clear hw w1
  rcases Nat.lt_or_ge 65536 L with hbig | hL
  · have h' : (65536 : Int) < (L : Int) := by omega
    go_wp2
    go_ret
    exact ⟨rfl, Below.refl _ _⟩
  have h' : ¬ (65536 : Int) < (L : Int) := by omega
  go_wp2
  clear h'
  go_loop [3] (fun i => ∃ k : Nat, k ≤ L ∧ i = .int .i64 k ∧ Hid (∀ j, j < k → 1 ≤ Z j ∧ Z j ≤ 32767)) (fun i => L - (intOf i).toNat)
  case atStart => exact ⟨0, Nat.zero_le _, rfl, hide (fun _ h => by omega)⟩
  case round =>
    obtain ⟨k, hk, rfl, HZ⟩ := hrel
    rcases Nat.lt_or_ge k L with hlt | hge
    · rcases HR.out with h0 | ⟨b, o, rfl, hb, hc⟩
      · omega
      have hck := hc k hlt
      clear hc
      by_cases hbad : Z k < 1
      · go_wp2
        go_ret
        exact ⟨rfl, Below.refl _ _⟩
      · by_cases hbad2 : 32768 ≤ Z k
        · go_wp2
          go_ret
          exact ⟨rfl, Below.refl _ _⟩
        · go_wp2
          go_round
          case rel => exact ⟨k + 1, by omega, by go_num, hide (fun j hj => by
            rcases Nat.lt_or_ge j k with h | h
            · exact HZ.out j h
            · obtain rfl : j = k := by omega
              omega)⟩
          case measure => simp [intOf]; omega
    · obtain rfl : L = k := by omega
      clear hge
      go_wp2
      go_loopw [4, 5, 7, 8] (fun d n v i ws => ∃ (k m c cap : Nat) (E : Nat → Int) (ao : Option Addr), k ≤ L ∧ i = .int .i64 k ∧ d = .int .i64 k ∧ n = .int .i64 m ∧ v = .slice ao c cap ∧ State Z w k E m c ao cap ws) (fun _ _ _ i _ => L - (intOf i).toNat)
      case atStart => exact ⟨0, 0, 0, 0, _, none, by omega, rfl, rfl, rfl, rfl, State.start Z w⟩
      case round =>
        obtain ⟨k, m, c, cap, E, ao, hk, rfl, rfl, rfl, rfl, hst⟩ := hrel
        have HST := hide hst
        clear hst
        rcases Nat.lt_or_ge k L with hlt | hge
        · have hzk := HZ.out k hlt
          obtain ⟨bk, hI, hr, ht, hch, hs, hB⟩ := HST.out
          have hcap := hI.cap
          have hmk := hI.n_le
          have htight := hI.tight
          have hbd := hide hI.bound
          have HCH := hide hch
          have HB := hide hB
          have HTH := hide ht
          clear hI hch
          rcases HR.out with h0 | ⟨b, o, rfl, hb, hc⟩
          · omega
          have hck := (HB.out.cell (p := ⟨b, o + k, none⟩) hb).trans (hc k hlt)
          clear hc
          have HP := hide (zzpush_any wr.drew (w.heap.size + 1) k m E ao c cap bk (Z k) hcap (by omega) hzk.1 hzk.2 hbd.out (by simpa using hs) (HCH.out.drewN 1))
          rw [show wrap64 ((k : Int) + 1) = (k : Int) + 1 by unfold wrap64; omega] at HP
          obtain ⟨cs, hcs⟩ : ∃ cs, cs = first32 E := ⟨_, rfl⟩
          have HL := hide (first32_length E)
          rw [← hcs] at HP hr HL
          have HRG := hide hr
          clear hcs hr ht hB
          go_wp2_with fail
          have hck' : wr.drew.cell? ⟨b, o + k, none⟩ = some (.int .i64 (Z k)) := hck
          refine wp_region_held_drew (S := fun W => W.there w.heap.size 0 32 ∧ W.cell? ⟨b, o + k, none⟩ = some (.int .i64 (Z k))) (by kernel_rfl) ⟨HTH.out, hck'⟩ (fun hS => ?_)
          refine wpAnyH_take (i := 0) (oi := ?oi0) (v := .int .i64 k) ?hi0 (by kernel_rfl) (by kernel_rfl) (by kernel_rfl) ?hq0 (Or.inl ⟨?hw0, ?hy0⟩) hS ?_
          case hi0 => simp only [List.getElem?_toArray, List.getElem?_cons_zero]; rfl
          case hq0 => exact fun _ _ _ h => h
          case hw0 => rfl
          case hy0 => intro W hSw; go_simp
          simp only [Act.put, List.setIfInBounds_toArray, List.set_cons_zero, List.set_cons_succ]
          refine wpAnyH_take (i := 1) (oi := ?oi1) (v := .int .i64 m) ?hi1 (by kernel_rfl) (by kernel_rfl) (by kernel_rfl) ?hq1 (Or.inl ⟨?hw1, ?hy1⟩) hS ?_
          case hi1 => simp only [List.getElem?_toArray, List.getElem?_cons_zero, List.getElem?_cons_succ]; rfl
          case hq1 => exact fun _ _ _ h => h
          case hw1 => rfl
          case hy1 => intro W hSw; go_simp
          simp only [Act.put, List.setIfInBounds_toArray, List.set_cons_zero, List.set_cons_succ]
          refine wpAnyH_take (i := 3) (oi := ?oi3) (v := .slice ao c cap) ?hi3 (by kernel_rfl) (by kernel_rfl) (by kernel_rfl) ?hq3 (Or.inl ⟨?hw3, ?hy3⟩) hS ?_
          case hi3 => simp only [List.getElem?_toArray, List.getElem?_cons_zero, List.getElem?_cons_succ]; rfl
          case hq3 => exact fun _ _ _ h => h
          case hw3 => rfl
          case hy3 => intro W hSw; go_simp
          simp only [Act.put, List.setIfInBounds_toArray, List.set_cons_zero, List.set_cons_succ]
          refine wpAnyH_take (i := 4) (oi := ?oi4) (v := .slice (some ⟨b, o, none⟩) L C) ?hi4 (by kernel_rfl) (by kernel_rfl) (by kernel_rfl) ?hq4 (Or.inl ⟨?hw4, ?hy4⟩) hS ?_
          case hi4 => simp only [List.getElem?_toArray, List.getElem?_cons_zero, List.getElem?_cons_succ]; rfl
          case hq4 => exact fun _ _ _ h => h
          case hw4 => rfl
          case hy4 => intro W hSw; go_simp
          simp only [Act.put, List.setIfInBounds_toArray, List.set_cons_zero, List.set_cons_succ]
          refine wpAnyH_take (i := 5) (oi := ?oi5) (v := .int .i64 k) ?hi5 (by kernel_rfl) (by kernel_rfl) (by kernel_rfl) ?hq5 (Or.inl ⟨?hw5, ?hy5⟩) hS ?_
          case hi5 => simp only [List.getElem?_toArray, List.getElem?_cons_zero, List.getElem?_cons_succ]; rfl
          case hq5 => exact fun _ _ _ h => h
          case hw5 => rfl
          case hy5 => intro W hSw; go_simp
          simp only [Act.put, List.setIfInBounds_toArray, List.set_cons_zero, List.set_cons_succ]
          refine wpAnyH_take (i := 6) (oi := ?oi6) (v := .pointer (some ⟨b, o + k, none⟩)) ?hi6 (by kernel_rfl) (by kernel_rfl) (by kernel_rfl) ?hq6 (Or.inl ⟨?hw6, ?hy6⟩) hS ?_
          case hi6 => simp only [List.getElem?_toArray, List.getElem?_cons_zero, List.getElem?_cons_succ]; rfl
          case hq6 => exact fun _ _ _ h => h
          case hw6 => rfl
          case hy6 => intro W hSw; go_simp
          simp only [Act.put, List.setIfInBounds_toArray, List.set_cons_zero, List.set_cons_succ]
          refine wpAnyH_take (i := 7) (oi := ?oi7) (v := .int .i64 (Z k)) ?hi7 (by kernel_rfl) (by kernel_rfl) (by kernel_rfl) ?hq7 (Or.inl ⟨?hw7, ?hy7⟩) hS ?_
          case hi7 => simp only [List.getElem?_toArray, List.getElem?_cons_zero, List.getElem?_cons_succ]; rfl
          case hq7 => exact fun _ _ _ h => h
          case hw7 => rfl
          case hy7 => intro W hSw; have hSw2 := hSw.2; go_simp
          simp only [Act.put, List.setIfInBounds_toArray, List.set_cons_zero, List.set_cons_succ]
          refine wpAnyH_ready (rs := [2]) (by kernel_rfl) (by simp) ?_
          refine AllReadyH.cons (o := ?oi2) ?hi2 (fun K hK => ?_) AllReadyH.nil
          case hi2 => simp only [List.getElem?_toArray, List.getElem?_cons_zero, List.getElem?_cons_succ]; rfl
          rw [if_pos (by rfl)]
          refine wp_load_mid 23 (.tmp 6) rfl w.heap.size 0 rfl cs _ HRG.out Try.underlying23 rfl (by rw [info23, HL.out]) ?_
          simp only [Act.put, List.setIfInBounds_toArray, List.set_cons_zero, List.set_cons_succ]
          refine hK.out _ _ hS (fun _ => ?_)
          clear hK K
          refine wpAnyH_ready (rs := [8]) (by kernel_rfl) (by simp) ?_
          refine AllReadyH.cons (o := ?oi8) ?hi8 (fun K hK => ?_) AllReadyH.nil
          case hi8 => simp only [List.getElem?_toArray, List.getElem?_cons_zero, List.getElem?_cons_succ]; rfl
          rw [if_pos (by rfl)]
          go_simp
          refine HP.out.mono ?_
          rintro e w1 ⟨E', n', c', ao', cap', bk', hp, rfl, hch, hb1⟩
          obtain ⟨cs', hcs'⟩ : ∃ cs, cs = first32 E' := ⟨_, rfl⟩
          have hl' := first32_length E'
          have h1' := first32_one E'
          rw [← hcs'] at hl' h1' ⊢
          have hth : w1.there w.heap.size 0 32 := fun j hj => by
            rw [hb1.cell (p := ⟨w.heap.size, 0 + j, none⟩) (by simp), hb1.frozen (p := ⟨w.heap.size, 0 + j, none⟩) (by simp)]
            exact HTH.out j hj
          have hck1 : w1.cell? ⟨b, o + k, none⟩ = some (.int .i64 (Z k)) := by
            rw [hb1.cell (p := ⟨b, o + k, none⟩) (by simp; omega)]
            exact hck
          have HCH' := hide hch
          have HB' := hide hb1
          have HC' := hide hcs'
          have HPU := hide hp
          have HTH' := hide hth
          have HS' : Hid (cs'.toArray.size = 32) := hide (by rw [List.size_toArray]; exact hl')
          have H1' := hide h1'
          clear hch hb1 hcs' hp hck hck' hth hl' h1'
          refine hK.out _ _ ⟨HTH'.out, hck1⟩ (fun hS => ?_)
          clear hK K
          refine wpAnyH_take (i := 9) (oi := ?oi9) (v := .tuple #[.int .i64 ((k : Int) + 1), .int .i64 (n' : Int), .agg cs'.toArray, .slice ao' c' cap']) ?hi9 (by kernel_rfl) (by kernel_rfl) (by kernel_rfl) ?hq9 (Or.inl ⟨?hw9, ?hy9⟩) hS ?_
          case hi9 => simp only [List.getElem?_toArray, List.getElem?_cons_zero, List.getElem?_cons_succ]; rfl
          case hq9 => exact fun _ _ _ h => h
          case hw9 => rfl
          case hy9 => intro W hSw; go_simp
          simp only [Act.put, List.setIfInBounds_toArray, List.set_cons_zero, List.set_cons_succ]
          refine wpAnyH_take (i := 10) (oi := ?oi10) (v := .int .i64 ((k : Int) + 1)) ?hi10 (by kernel_rfl) (by kernel_rfl) (by kernel_rfl) ?hq10 (Or.inl ⟨?hw10, ?hy10⟩) hS ?_
          case hi10 => simp only [List.getElem?_toArray, List.getElem?_cons_zero, List.getElem?_cons_succ]; rfl
          case hq10 => exact fun _ _ _ h => h
          case hw10 => rfl
          case hy10 => intro W hSw; go_simp
          simp only [Act.put, List.setIfInBounds_toArray, List.set_cons_zero, List.set_cons_succ]
          refine wpAnyH_take (i := 11) (oi := ?oi11) (v := .int .i64 (n' : Int)) ?hi11 (by kernel_rfl) (by kernel_rfl) (by kernel_rfl) ?hq11 (Or.inl ⟨?hw11, ?hy11⟩) hS ?_
          case hi11 => simp only [List.getElem?_toArray, List.getElem?_cons_zero, List.getElem?_cons_succ]; rfl
          case hq11 => exact fun _ _ _ h => h
          case hw11 => rfl
          case hy11 => intro W hSw; go_simp
          simp only [Act.put, List.setIfInBounds_toArray, List.set_cons_zero, List.set_cons_succ]
          refine wpAnyH_take (i := 12) (oi := ?oi12) (v := .agg cs'.toArray) ?hi12 (by kernel_rfl) (by kernel_rfl) (by kernel_rfl) ?hq12 (Or.inl ⟨?hw12, ?hy12⟩) hS ?_
          case hi12 => simp only [List.getElem?_toArray, List.getElem?_cons_zero, List.getElem?_cons_succ]; rfl
          case hq12 => exact fun _ _ _ h => h
          case hw12 => rfl
          case hy12 => intro W hSw; go_simp
          simp only [Act.put, List.setIfInBounds_toArray, List.set_cons_zero, List.set_cons_succ]
          refine wpAnyH_take (i := 13) (oi := ?oi13) (v := .slice ao' c' cap') ?hi13 (by kernel_rfl) (by kernel_rfl) (by kernel_rfl) ?hq13 (Or.inl ⟨?hw13, ?hy13⟩) hS ?_
          case hi13 => simp only [List.getElem?_toArray, List.getElem?_cons_zero, List.getElem?_cons_succ]; rfl
          case hq13 => exact fun _ _ _ h => h
          case hw13 => rfl
          case hy13 => intro W hSw; go_simp
          simp only [Act.put, List.setIfInBounds_toArray, List.set_cons_zero, List.set_cons_succ]
          refine wpAnyH_take (i := 14) (oi := ?oi14) (v := .int .i64 ((k : Int) + 1)) ?hi14 (by kernel_rfl) (by kernel_rfl) (by kernel_rfl) ?hq14 (Or.inl ⟨?hw14, ?hy14⟩) hS ?_
          case hi14 => simp only [List.getElem?_toArray, List.getElem?_cons_zero, List.getElem?_cons_succ]; rfl
          case hq14 => exact fun _ _ _ h => h
          case hw14 => rfl
          case hy14 => intro W hSw; go_simp
          simp only [Act.put, List.setIfInBounds_toArray, List.set_cons_zero, List.set_cons_succ]
          refine wpAnyH_take (i := 15) (oi := ?oi15) (v := .int .i64 (n' : Int)) ?hi15 (by kernel_rfl) (by kernel_rfl) (by kernel_rfl) ?hq15 (Or.inl ⟨?hw15, ?hy15⟩) hS ?_
          case hi15 => simp only [List.getElem?_toArray, List.getElem?_cons_zero, List.getElem?_cons_succ]; rfl
          case hq15 => exact fun _ _ _ h => h
          case hw15 => rfl
          case hy15 => intro W hSw; go_simp
          simp only [Act.put, List.setIfInBounds_toArray, List.set_cons_zero, List.set_cons_succ]
          refine wpAnyH_ready (rs := [16]) (by kernel_rfl) (by simp) ?_
          refine AllReadyH.cons (o := ?oi16) ?hi16 (fun K hK => ?_) AllReadyH.nil
          case hi16 => simp only [List.getElem?_toArray, List.getElem?_cons_zero, List.getElem?_cons_succ]; rfl
          rw [if_pos (by rfl)]
          refine wp_store_mid 23 (.tmp 6) (.tmp 62) rfl w.heap.size 0 cs'.toArray rfl rfl ?_ ?_ (all_oneCell_toArray H1'.out) ?_
          · rw [HS'.out]; exact HTH'.out
          · rw [HS'.out]; exact info23
          simp only [Act.put]
          refine hK.out _ _ ⟨World.there_setCells HTH'.out _ _ _, (World.cell?_setCells_out _ _ _ _ _ (fun h => absurd h (by simp; omega))).trans hck1⟩ (fun hS => ?_)
          clear hK K
          refine wpAnyH_take (i := 17) (oi := ?oi17) (v := .slice ao' c' cap') ?hi17 (by kernel_rfl) (by kernel_rfl) (by kernel_rfl) ?hq17 (Or.inl ⟨?hw17, ?hy17⟩) hS ?_
          case hi17 => simp only [List.getElem?_toArray, List.getElem?_cons_zero, List.getElem?_cons_succ]; rfl
          case hq17 => exact fun _ _ _ h => h
          case hw17 => rfl
          case hy17 => intro W hSw; go_simp
          simp only [Act.put, List.setIfInBounds_toArray, List.set_cons_zero, List.set_cons_succ]
          refine wpAnyH_done (by kernel_rfl) ?_ _
          go_wp2
          go_roundw
          case rel => exact ⟨k + 1, n', c', cap', E', ao', by omega, by go_num, by go_num, rfl, rfl, by rw [HC'.out]; exact State.step HST.out hzk.1 hzk.2 HPU.out HCH'.out ((Below.drew (Below.refl _ wr)).trans HB'.out)⟩
          case measure => simp [intOf]; omega
        · obtain rfl : L = k := by omega
          clear hge
          go_wp2
          go_loop [9, 10, 11] (fun x y i => ∃ j W O : Nat, j ≤ L ∧ i = .int .i64 j ∧ x = .int .i64 W ∧ y = .int .i64 O ∧ Hid (few Z j = (W, O)) ∧ W + O ≤ j) (fun _ _ i => L - (intOf i).toNat)
          case atStart => exact ⟨0, 0, 0, by omega, rfl, rfl, rfl, hide rfl, by omega⟩
          case round =>
            obtain ⟨j, W, O, hj, rfl, rfl, rfl, HF, hWO⟩ := hrel
            rcases Nat.lt_or_ge j L with hlt | hge
            · obtain ⟨bk, hI, hr, ht, hch, hs, hB⟩ := HST.out
              rcases HR.out.below hB with h0 | ⟨b, o, rfl, hb, hc⟩
              · omega
              have hck := hc j hlt
              clear hc hI hr ht hch hs hB
              by_cases h1 : Z j = 1
              · rw [h1] at hck
                go_wp2
                go_round
                case rel => exact ⟨j + 1, W, O + 1, by omega, by go_num, by go_num, by go_num, hide (by rw [few, HF.out, if_pos h1]), by omega⟩
                case measure => simp [intOf]; omega
              · go_wp2
                go_round
                case rel => exact ⟨j + 1, W + (O + 32766) / 32767 + 1, 0, by omega, by go_num, congrArg (Value.int .i64) (by omega), by go_num, hide (by rw [few, HF.out, if_neg h1]), by omega⟩
                case measure => simp [intOf]; omega
            · obtain rfl : L = j := by omega
              clear hge
              obtain ⟨bk, hI, hr, ht, hch, hs, hB⟩ := HST.out
              have HI := hide hI
              have HR2 := hide (HR.out.below hB)
              have HCH := hide hch
              have HB := hide hB
              have hmW : m = W + (O + 32766) / 32767 := by have := hI.least; rw [HF.out] at this; exact this
              have hcap := hI.cap
              have hmL := hI.n_le
              have htight := hI.tight
              have hT1 : (W : Int) + (O + 32768 - 2) / 32767 = m := by omega
              obtain ⟨cs, hcs⟩ : ∃ cs, cs = first32 E := ⟨_, rfl⟩
              have hl := first32_length E
              rw [← hcs] at hr hl
              have HRG := hide hr
              have HC := hide hcs
              have HLEN := hide hl
              have HS := hide hs
              clear hI hr ht hch hs hB hcs hl hmW HST
              go_upto_if 99 with fail
              generalize ((O : Int) + 32768 - 2) / 32767 = D1 at *
              generalize (O : Int) + 32768 - 2 = D2 at *
              generalize (O : Int) + 32768 = D3 at *
              go_cut [12] (fun v ws => v = .int .i64 c ∧ ws = wr)
              case first =>
                rcases Nat.lt_or_ge 32 m with h32 | h32
                · go_wp2
                  go_meet
                  case rel => exact ⟨congrArg (Value.int .i64) (by omega), rfl⟩
                · obtain rfl : c = 0 := by omega
                  go_wp2
                  go_meet
                  case rel => exact ⟨rfl, rfl⟩
              case rest =>
                obtain ⟨rfl, hwc⟩ := hcut
                rw [hwc]
                clear hwc
                go_wp2
                go_loop [13] (fun i => ∃ q : Nat, q ≤ c ∧ i = .int .i64 q) (fun i => c - (intOf i).toNat)
                case atStart => exact ⟨0, by omega, rfl⟩
                case round =>
                  obtain ⟨q, hq, rfl⟩ := hrel
                  rcases Nat.lt_or_ge q c with hlt | hge
                  · obtain ⟨bo, rfl, _, hbo, hcell⟩ := HCH.out.outer (by omega)
                    have hcq := hcell q hlt
                    clear hcell
                    go_wp2
                    go_round
                    case rel => exact ⟨q + 1, by omega, by go_num⟩
                    case measure => simp [intOf]; omega
                  · obtain rfl : c = q := by omega
                    clear hge
                    go_wp2_with ((with_reducible refine wpList_load_mid rfl 23 (.tmp 6) rfl w.heap.size 0 ?_ cs _ ?_ Try.underlying23 ?_ ?_ ?_); rfl; exact HRG.out; rfl; rw [info23, HLEN.out])
                    rw [HC.out]
                    refine (entries_any wr (w.heap.size + 1) m E ao c cap bk hcap (by omega) HCH.out).mono ?_
                    rintro e w2 ⟨v, rfl, hown, hb2⟩
                    obtain ⟨ae, ce, rfl, hread⟩ := own_read hown
                    have HRD := hide hread
                    have HR3 := hide (HR2.out.below hb2)
                    have HB2 := hide (HB.out.trans (hb2.mono HB.out.size))
                    clear hown hb2 hread
                    have hall := HI.out.all
                    go_wp2
                    go_loop [15, 16] (fun p i => ∃ j : Nat, j ≤ m ∧ i = .int .i64 j ∧ p = .int .i64 (pos E j : Nat)) (fun _ i => m - (intOf i).toNat)
                    case atStart => exact ⟨0, by omega, rfl, rfl⟩
                    case round =>
                      obtain ⟨j, hj, rfl, rfl⟩ := hrel
                      rcases Nat.lt_or_ge j m with hlt | hge
                      · obtain ⟨hv1, hv2⟩ := HI.out.valid j hlt
                        obtain ⟨hv0, hv3⟩ := HI.out.bound j (by omega)
                        have hp1 : pos E (j + 1) ≤ L := by rw [← hall]; exact pos_mono E _ m (by omega)
                        have hpe : pos E (j + 1) = pos E j + width (E j) := rfl
                        rcases HRD.out with h0 | ⟨g, rfl, hce⟩
                        · omega
                        have hcj := hce j hlt
                        clear hce
                        have b1 := and_run (E j) hv0 hv3
                        have b2 := andNot_run (E j) hv0 hv3
                        rcases HR3.out with h0 | ⟨b, o, rfl, hb, hc⟩
                        · have : 0 < width (E j) := by
                            unfold width
                            split <;> omega
                          omega
                        have HCC := hide hc
                        clear hc
                        obtain ⟨P, hP⟩ : ∃ P, P = pos E j := ⟨_, rfl⟩
                        rw [← hP] at hpe
                        have HPP := hide hP
                        rw [← hP]
                        clear hP
                        by_cases hrun : 32768 ≤ E j
                        · rw [if_pos hrun] at b1 b2
                          obtain ⟨X, hX⟩ : ∃ X : Nat, (X : Int) = E j - 32768 := ⟨(E j - 32768).toNat, by omega⟩
                          have hw : width (E j) = X := by unfold width; rw [if_pos hrun]; omega
                          rw [← hX] at b2
                          go_wp2_with fail
                          refine (valid_any (E j) hv1 hv3 hv2 _).mono ?_
                          rintro e3 w3 ⟨rfl, hw3⟩
                          rw [hw3]
                          clear hw3 w3
                          have hfit : ¬ ((L : Int) - P < X) := by omega
                          go_wp2
                          go_loop [15, 19] (fun p t => ∃ y : Nat, y ≤ X ∧ t = .int .i64 y ∧ p = .int .i64 ((P + y : Nat) : Int)) (fun _ t => X - (intOf t).toNat)
                          case atStart => exact ⟨0, by omega, rfl, rfl⟩
                          case round =>
                            obtain ⟨y, hy, rfl, rfl⟩ := hrel
                            rcases Nat.lt_or_ge y X with hlt2 | hge2
                            · have hcP := HCC.out (P + y) (by omega)
                              rw [HI.out.runs j hlt (by omega) (P + y) (by have := HPP.out; omega) (by omega)] at hcP
                              go_wp2
                              go_round
                              case rel => exact ⟨y + 1, by omega, by go_num, congrArg (Value.int .i64) (by omega)⟩
                              case measure => simp [intOf]; omega
                            · obtain rfl : X = y := by omega
                              go_wp2
                              go_round
                              case rel => exact ⟨j + 1, by omega, by go_num, congrArg (Value.int .i64) (by omega)⟩
                              case measure => simp [intOf]; omega
                        · rw [if_neg hrun] at b1 b2
                          have hw : width (E j) = 1 := by unfold width; rw [if_neg hrun]
                          have hcP := HCC.out P (by omega)
                          rw [HPP.out, HI.out.counts j hlt (by omega), ← HPP.out] at hcP
                          go_wp2_with fail
                          refine (valid_any (E j) hv1 hv3 hv2 _).mono ?_
                          rintro e3 w3 ⟨rfl, hw3⟩
                          rw [hw3]
                          clear hw3 w3
                          go_wp2
                          go_round
                          case rel => exact ⟨j + 1, by omega, by go_num, congrArg (Value.int .i64) (by omega)⟩
                          case measure => simp [intOf]; omega
                      · obtain rfl : m = j := by omega
                        clear hge
                        rw [hall]
                        go_wp2
                        go_ret
                        exact ⟨by simp, HB2.out⟩

end Go.Proofs.Qxb6604049a
