import Derived.Test.Qxb6604049aZZ
namespace Go.Proofs.Qxb6604049a
open Go.RowKit

/-- The first n entries as cells. -/
def ents (E : Nat → Int) (n : Nat) : List Value := (List.range n).map fun i => .int .u16 (E i)
theorem ents_length (E : Nat → Int) (n : Nat) : (ents E n).length = n := by simp [ents]
theorem ents_succ (E : Nat → Int) (n : Nat) : ents E (n + 1) = ents E n ++ [.int .u16 (E n)] := by simp [ents, List.range_succ]
theorem ents_get (E : Nat → Int) (n i : Nat) (h : i < n) : (ents E n)[i]? = some (.int .u16 (E i)) := by simp [ents, h]

/-- 'out = append(out, x)'. -/
theorem wpList_app {w : World} {ops : Array Oper} {rest : List Oper} {o : Oper} {a : Act} {Q : Exit → Act → World → Prop} (hgd : o.guard = none) (s x : Operand)
    (ho : o.op = .call { callee := .builtin .append, args := #[s, x], argTypes := #[26, 26] }) (B k : Nat) (E : Nat → Int) (v : Value) (b : Nat)
    (hs : a.eval s = v) (hown : w.ownsRow B 22 1 v k (ents E k)) (hx : a.eval x = .slice (some ⟨b, 0, none⟩) 1 1) (hc : w.cell? ⟨b, 0, none⟩ = some (.int .u16 (E k))) (hk : k ≤ 100000000) (hB : B ≤ w.heap.size)
    (h : ∀ v' w', w'.ownsRow B 22 1 v' (k + 1) (ents E (k + 1)) → Below B w w' → wpList Try.prog ops Q rest (a.put o.dst v') w') : wpList Try.prog ops Q (o :: rest) a w := by
  obtain ⟨i0, hi, h0, h1, h2⟩ := info_parts info22
  refine wpList_append_own _ hgd s x 26 ho B 22 i0 (.int .u16 0) 1 2 Try.underlying26 hi h0 h1 h2 rfl (by decide) v k _ hs hown ⟨b, 0, none⟩ 1 1 [.int .u16 (E k)] hx rfl ?_ ?_ ?_ ?_ hB ?_
  · intro j u hj
    match j, hj with
    | 0, hj => simp at hj; subst hj; simpa [Addr.add] using hc
  · intro u hu; simp at hu; subst hu; rfl
  · unfold maxLen; omega
  · omega
  · intro v' w' hown' hgrow _
    refine h v' w' (by rw [ents_succ]; exact hown') ?_
    exact Below.grown (Below.refl _ _) hgrow hB (fun k hk => (hown.lt k hk).1)

set_option maxRecDepth 100000 in
set_option maxHeartbeats 2000000 in
theorem entries_any (w : World) (B : Nat) (n : Nat) (E : Nat → Int) (ao : Option Addr) (c cap : Nat) (bk : Nat → Nat) (hn : n ≤ 32 + 1024 * c) (hc : c ≤ 65536) (H : Chunks w B ao c cap bk E) :
    Calls Try.prog 7 #[.int .i64 n, .agg (first32 E).toArray, .slice ao c cap] w fun e w' => ∃ v, e = .returned v ∧ w'.ownsRow (w.heap.size + 1) 22 1 v n (ents E n) ∧ Below w.heap.size w w' := by
  obtain ⟨cs, hcs⟩ : ∃ cs, cs = first32 E := ⟨_, rfl⟩
  obtain ⟨i0, hi, h0, h1, h2⟩ := info_parts info22
  obtain ⟨W1, hmk, hown0, hgrow⟩ := run_make_own (P := Try.prog) (w.alloc (.cells cs.toArray 23)) (w.heap.size + 1) 26 22 i0 (.int .u16 0) 1 Try.underlying26 hi h0 h1 .i64 .i64 n (by rw [h2]; omega) (by unfold maxLen; omega) (by simp)
  rw [show (w.alloc (.cells cs.toArray 23)).heap.size = w.heap.size + 1 by simp] at hmk hown0
  have HW1 := hide (Below.grown (B := w.heap.size + 1) (Below.refl _ _) hgrow (by simp) (by simp))
  have hx : ∀ j, j < 32 → W1.cell? ⟨w.heap.size, j, none⟩ = some (.int .u16 (E j)) := fun j hj => by
    rw [HW1.out.cell (by simp)]
    have := World.rangeAt_of_new w cs 23 j (.int .u16 (E j)) (by rw [hcs]; exact first32_get E j hj)
    simpa using this
  have HX := hide hx
  have HO := hide hown0
  have HC := hide hcs
  rw [← hcs]
  clear hx hown0 hgrow hcs h0 h1 h2 hi i0
  have hch : Chunks W1 B ao c cap bk E := H.of_blocks (fun k hk => by
    have hlt : k < w.heap.size := by
      rcases hk with ⟨i, hi, rfl⟩ | h
      · exact (H.rows i hi).lt
      · exact (H.own.lt _ h).2
    rw [HW1.out.block k (by omega), Below.heap_alloc _ _ _ hlt])
  have HCH := hide hch
  have HLT : Hid (∀ k, ((∃ i, i < c ∧ k = bk i) ∨ (Value.slice ao c cap).ownBlock = some k) → k < w.heap.size) := hide (by
    rintro k (⟨i, hi, rfl⟩ | h)
    · exact (H.rows i hi).lt
    · exact (H.own.lt _ h).2)
  clear hch H
  go_enter Try.func7, Try.ntmps7
  go_wp2
  go_loopw [7, 8] (fun v i wr => ∃ k : Nat, k ≤ n ∧ k ≤ 32 ∧ i = .int .i64 k ∧ wr.ownsRow (w.heap.size + 1) 22 1 v k (ents E k) ∧ Below (w.heap.size + 1) W1 wr) (fun _ i _ => 32 - (intOf i).toNat)
  case atStart => exact ⟨0, by omega, by omega, rfl, HO.out, Below.refl _ _⟩
  case round =>
    obtain ⟨k, hk, hk32, rfl, hown, hb⟩ := hrel
    have hcx : k < 32 → wr.cell? ⟨w.heap.size, k, none⟩ = some (.int .u16 (E k)) := fun h => (hb.cell (by simp)).trans (HX.out k h)
    have hsz := hb.size
    have hsz1 := HW1.out.size
    simp at hsz1
    have HOW := hide hown
    have HB := hide hb
    clear hown hb
    rcases Nat.lt_or_ge k (min n 32) with hlt | hge
    · have hn1 : k < n := by omega
      have h32 : k < 32 := by omega
      have hc1 := hcx h32
      clear hcx hlt
      go_wp2_with (at_builtin; refine wpList_app rfl _ _ rfl (w.heap.size + 1) k E _ wr.heap.size rfl (HOW.out.alloc _) rfl ?c1 (by omega) ?c2 ?_)
      case c1 => simp
      case c2 => simp; omega
      intro v' w' hown' hb'
      have HR := hide hown'
      have HB2 := hide ((HB.out.alloc (by omega) _).trans hb')
      clear hown' hb'
      go_wp2
      go_roundw
      case rel => exact ⟨k + 1, by omega, by omega, by go_num, HR.out, HB2.out⟩
      case measure => simp [intOf]; omega
    · clear hcx
      rcases Nat.lt_or_ge 32 n with h32 | h32
      · obtain rfl : k = 32 := by omega
        clear hge hk hk32
        go_wp2
        go_loopw [7, 9, 10] (fun v r i ws => ∃ q t : Nat, q ≤ c ∧ t ≤ n ∧ 32 ≤ t ∧ (t = n ∨ t = 32 + 1024 * q) ∧ t ≤ 32 + 1024 * q ∧ r = .int .i64 ((n : Int) - t) ∧ i = .int .i64 q ∧ ws.ownsRow (w.heap.size + 1) 22 1 v t (ents E t) ∧ Below (w.heap.size + 1) W1 ws) (fun _ _ i _ => c - (intOf i).toNat)
        case atStart => exact ⟨0, 32, by omega, by omega, by omega, by omega, by omega, by go_num, rfl, HOW.out, HB.out⟩
        case round =>
          obtain ⟨q, t, hq, ht, ht32, htn, htq, rfl, rfl, hown, hb⟩ := hrel
          have HOW2 := hide hown
          have HB2 := hide hb
          clear hown hb
          rcases Nat.lt_or_ge t n with hlt | hge
          · obtain rfl : t = 32 + 1024 * q := by omega
            have hqc : q < c := by omega
            obtain ⟨M, hM⟩ : ∃ M : Nat, M = min (n - (32 + 1024 * q)) 1024 := ⟨_, rfl⟩
            have hM1 : M ≤ 1024 := by omega
            have hM2 : M ≤ n - (32 + 1024 * q) := by omega
            obtain ⟨bo, rfl, _, hbo, hcell⟩ := HCH.out.outer (by omega)
            have hbo' := HLT.out bo (.inr (by simp [Value.ownBlock]))
            have hbk := HLT.out _ (.inl ⟨q, hqc, rfl⟩)
            have hc1 : wr.cell? ⟨bo, q, none⟩ = some (.slice (some ⟨bk q, 0, none⟩) 1024 1024) := (HB2.out.cell (by simp; omega)).trans (hcell q hqc)
            clear hcell
            have HHM := hide hM
            clear hM
            go_upto_if 51 with fail
            go_cut [11] (fun v ws => v = .int .i64 M ∧ ws = wr)
            case first =>
              rcases Nat.lt_or_ge (1024 + (32 + 1024 * q)) n with hb | hb
              · have e : M = 1024 := by have := HHM.out; omega
                have hr : (1024 : Int) < (n : Int) - ((32 + 1024 * q : Nat) : Int) := by omega
                go_wp2
                go_meet
                case rel => exact ⟨by rw [e]; rfl, rfl⟩
              · have e : M = n - (32 + 1024 * q) := by have := HHM.out; omega
                have hr : ¬ (1024 : Int) < (n : Int) - ((32 + 1024 * q : Nat) : Int) := by omega
                go_wp2
                go_meet
                case rel => exact ⟨by go_num, rfl⟩
            case rest =>
              obtain ⟨rfl, hwc⟩ := hcut
              rw [hwc]
              clear hwc
              go_wp2
              go_loopw [7, 12] (fun v i ws => ∃ j : Nat, j ≤ M ∧ i = .int .i64 j ∧ ws.ownsRow (w.heap.size + 1) 22 1 v (32 + 1024 * q + j) (ents E (32 + 1024 * q + j)) ∧ Below (w.heap.size + 1) W1 ws) (fun _ i _ => M - (intOf i).toNat)
              case atStart => exact ⟨0, by omega, rfl, HOW2.out, HB2.out⟩
              case round =>
                obtain ⟨j, hj, rfl, hown, hb⟩ := hrel
                have HOW3 := hide hown
                have HB3 := hide hb
                clear hown hb
                have hsz3 := HB3.out.size
                rcases Nat.lt_or_ge j M with hlt | hge
                · have hc2 : wr.cell? ⟨bo, q, none⟩ = some (.slice (some ⟨bk q, 0, none⟩) 1024 1024) := by
                    obtain ⟨bo', e, _, _, hcell⟩ := HCH.out.outer (by omega)
                    simp only [Option.some.injEq, Addr.mk.injEq, and_true] at e
                    subst e
                    exact (HB3.out.cell (by simp; omega)).trans (hcell q hqc)
                  have hc3 : wr.cell? ⟨bk q, j, none⟩ = some (.int .u16 (E (32 + 1024 * q + j))) := (HB3.out.cell (by simp; omega)).trans ((HCH.out.rows q hqc).cell (by omega))
                  go_wp2_with (at_builtin; refine wpList_app rfl _ _ rfl (w.heap.size + 1) (32 + 1024 * q + j) E _ wr.heap.size rfl (HOW3.out.alloc _) rfl ?c1 (by omega) ?c2 ?_)
                  case c1 => simp
                  case c2 => simp; omega
                  intro v' w' hown' hb'
                  have HR := hide hown'
                  have HB4 := hide ((HB3.out.alloc (by omega) _).trans hb')
                  clear hown' hb'
                  go_wp2
                  go_roundw
                  case rel => exact ⟨j + 1, by omega, by go_num, HR.out, HB4.out⟩
                  case measure => simp [intOf]; omega
                · obtain rfl : j = M := by omega
                  go_wp2
                  go_roundw
                  case rel => exact ⟨q + 1, 32 + 1024 * q + j, by omega, by omega, by omega, by have := HHM.out; omega, by omega, by go_num, by go_num, HOW3.out, HB3.out⟩
                  case measure => simp [intOf]; omega
          · obtain rfl : t = n := by omega
            have hr0 : ¬ (0 : Int) < (t : Int) - t := by omega
            go_wp2
            go_ret
            exact ⟨_, rfl, HOW2.out, ((Below.refl _ _).alloc (Nat.le_refl _) _).trans (((HW1.out).trans HB2.out).mono (by omega))⟩
      · obtain rfl : k = n := by omega
        have hr0 : ¬ (0 : Int) < (k : Int) - 32 := by omega
        go_wp2
        go_loopw [7, 9, 10] (fun v r i ws => r = .int .i64 ((k : Int) - 32) ∧ i = .int .i64 0 ∧ ws.ownsRow (w.heap.size + 1) 22 1 v k (ents E k) ∧ Below (w.heap.size + 1) W1 ws) (fun _ _ _ _ => 0)
        case atStart => exact ⟨by go_num, rfl, HOW.out, HB.out⟩
        case round =>
          obtain ⟨rfl, rfl, hown, hb⟩ := hrel
          have HOW2 := hide hown
          have HB2 := hide hb
          clear hown hb
          go_wp2
          go_ret
          exact ⟨_, rfl, HOW2.out, ((Below.refl _ _).alloc (Nat.le_refl _) _).trans (((HW1.out).trans HB2.out).mono (by omega))⟩

end Go.Proofs.Qxb6604049a
