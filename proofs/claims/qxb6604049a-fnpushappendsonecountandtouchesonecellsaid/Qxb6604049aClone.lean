import Derived.Test.Qxb6604049aScript
namespace Go.Proofs.Qxb6604049a
open Go.RowKit

/-- A slice of slices of 1024 each, wherever they lie. -/
def RowsIn (w : World) (a : Option Addr) (c : Nat) (E : Nat → Int) : Prop :=
  c = 0 ∨ ∃ b o, a = some ⟨b, o, none⟩ ∧ b < w.heap.size ∧ ∀ i, i < c → ∃ bi oi ci, w.cell? ⟨b, o + i, none⟩ = some (.slice (some ⟨bi, oi, none⟩) 1024 ci) ∧ bi < w.heap.size ∧ ∀ j, j < 1024 → w.cell? ⟨bi, oi + j, none⟩ = some (.int .u16 (E (32 + 1024 * i + j)))

theorem RowsIn.below {w w' : World} {a : Option Addr} {c : Nat} {E : Nat → Int} (h : RowsIn w a c E) (hb : Below w.heap.size w w') : RowsIn w' a c E := by
  rcases h with h | ⟨b, o, ha, hl, hc⟩
  · exact .inl h
  · refine .inr ⟨b, o, ha, Nat.lt_of_lt_of_le hl hb.size, fun i hi => ?_⟩
    obtain ⟨bi, oi, ci, h1, h2, h3⟩ := hc i hi
    exact ⟨bi, oi, ci, (hb.cell (p := ⟨b, o + i, none⟩) hl).trans h1, Nat.lt_of_lt_of_le h2 hb.size, fun j hj => (hb.cell (p := ⟨bi, oi + j, none⟩) h2).trans (h3 j hj)⟩

theorem Chunks.rowsIn {w : World} {B : Nat} {ao : Option Addr} {c cap : Nat} {bk : Nat → Nat} {E : Nat → Int} (h : Chunks w B ao c cap bk E) : RowsIn w ao c E := by
  rcases Nat.eq_zero_or_pos c with h0 | h0
  · exact .inl h0
  · obtain ⟨bo, rfl, _, hbo, hcell⟩ := h.outer h0
    refine .inr ⟨bo, 0, rfl, hbo, fun i hi => ⟨bk i, 0, 1024, by rw [Nat.zero_add]; exact hcell i hi, (h.rows i hi).lt, fun j hj => by rw [Nat.zero_add]; exact (h.rows i hi).cell hj⟩⟩

/-- What the clone has made so far. -/
structure Half (w : World) (c q : Nat) (bk : Nat → Nat) (E : Nat → Int) (wr : World) : Prop where
  outer : wr.rowIs w.heap.size 26 c (fun j => if j < q then .slice (some ⟨bk j, 0, none⟩) 1024 1024 else .slice none 0 0)
  rows : ∀ i, i < q → wr.rowIs (bk i) 22 1024 (fun j => .int .u16 (E (32 + 1024 * i + j)))
  ge : ∀ i, i < q → w.heap.size < bk i
  inj : ∀ i j, i < q → j < q → bk i = bk j → i = j
  below : Below w.heap.size w wr

theorem Half.done {w : World} {c : Nat} {bk : Nat → Nat} {E : Nat → Int} {wr : World} (h : Half w c c bk E wr) (hc : c ≤ 65536) : Chunks wr w.heap.size (some ⟨w.heap.size, 0, none⟩) c c bk E := by
  refine ⟨?_, h.rows, fun i hi => Nat.le_of_lt (h.ge i hi), h.inj, fun i hi e => ?_⟩
  · obtain ⟨cur, hg, hs, hcell⟩ := h.outer
    refine ⟨by simp, .inr ⟨w.heap.size, c, cur, rfl, Nat.le_refl _, hg, Nat.le_refl _, by unfold maxLen; omega, by omega, ?_⟩⟩
    refine List.ext_getElem? (fun i => ?_)
    rcases Nat.lt_or_ge i c with hi | hi
    · rw [List.getElem?_take_of_lt (by omega)]
      have := hcell i hi
      simp only [if_pos hi] at this
      simp [hi, this]
    · rw [List.getElem?_eq_none (by simp; omega), List.getElem?_eq_none (by simp; omega)]
  · have := h.ge i hi
    simp [Value.ownBlock] at e
    omega

/-- One more row. -/
theorem Half.step {w : World} {c q : Nat} {bk : Nat → Nat} {E : Nat → Int} {wr w2 : World} (h : Half w c q bk E wr) (hq : q < c) (hrow : w2.rowIs wr.heap.size 22 1024 (fun j => .int .u16 (E (32 + 1024 * q + j)))) (hb : Below wr.heap.size wr w2) :
    Half w c (q + 1) (fun j => if j = q then wr.heap.size else bk j) E (w2.setCell ⟨w.heap.size, q, none⟩ (.slice (some ⟨wr.heap.size, 0, none⟩) 1024 1024)) := by
  have hlt := h.outer.lt
  refine ⟨?_, fun i hi => ?_, fun i hi => ?_, fun i j hi hj e => ?_, ?_⟩
  · refine ((h.outer.of_block (hb.block _ hlt)).set q _).congr (fun j hj => ?_)
    by_cases e : j = q
    · subst e; simp
    · by_cases e2 : j < q
      · simp [e, e2, show j < q + 1 by omega]
      · simp [e, e2, show ¬ j < q + 1 by omega]
  · by_cases e : i = q
    · subst e
      simp only [if_true]
      exact hrow.setOther (by simp; omega) _
    · simp only [if_neg e]
      exact ((h.rows i (by omega)).of_block (hb.block _ (h.rows i (by omega)).lt)).setOther (by have := h.ge i (by omega); simp; omega) _
  · by_cases e : i = q
    · simp only [if_pos e]; exact hlt
    · simp only [if_neg e]; exact h.ge i (by omega)
  · split at e <;> split at e
    · omega
    · have := (h.rows j (by omega)).lt; omega
    · have := (h.rows i (by omega)).lt; omega
    · exact h.inj i j (by omega) (by omega) e
  · exact (h.below.trans (hb.mono h.below.size)).setCell (Nat.le_refl _) _

theorem clone_nil (w : World) : Calls Try.prog 6 #[.slice none 0 0] w fun e w' => e = .returned (.slice none 0 0) ∧ w' = w := by
  have hn := fun w => Lib.run_eql_slice_nil (P := Try.prog) w 24 26 none 0 0 0 0 Try.underlying24
  go_enter Try.func6, Try.ntmps6
  go_wp2
  go_ret
  exact ⟨rfl, rfl⟩

set_option maxRecDepth 100000 in
set_option maxHeartbeats 2000000 in
theorem clone_any (w : World) (a : Option Addr) (c cap : Nat) (E : Nat → Int) (hn : a = none → c = 0 ∧ cap = 0) (hc : c ≤ 65536) (R : RowsIn w a c E) :
    Calls Try.prog 6 #[.slice a c cap] w fun e w' => ∃ ao' cap' bk', e = .returned (.slice ao' c cap') ∧ Chunks w' w.heap.size ao' c cap' bk' E ∧ Below w.heap.size w w' := by
  cases a with
  | none =>
    obtain ⟨rfl, rfl⟩ := hn rfl
    refine (clone_nil w).mono ?_
    rintro e w1 ⟨rfl, rfl⟩
    exact ⟨none, 0, fun _ => 0, rfl, ⟨World.ownsRow_nil _ _ _ _, fun _ h => absurd h (by omega), fun _ h => absurd h (by omega), fun _ _ h => absurd h (by omega), fun _ h => absurd h (by omega)⟩, Below.refl _ _⟩
  | some x =>
    have HR := hide R
    clear R hn
    have hnl := fun w => Lib.run_eql_slice_nil (P := Try.prog) w 24 26 (some x) c cap 0 0 Try.underlying24
    have hmk := run_make_row' (P := Try.prog) 24 26 (.slice none 0 0) 24 Try.underlying24 info26 rfl .i64 .i64 c (by omega) (by omega) w
    go_enter Try.func6, Try.ntmps6
    go_wp2
    go_loopw [4] (fun i wr => ∃ (q : Nat) (bk : Nat → Nat), q ≤ c ∧ i = .int .i64 q ∧ Half w c q bk E wr) (fun i _ => c - (intOf i).toNat)
    case atStart =>
      refine ⟨0, fun _ => 0, by omega, rfl, (World.rowIs_made w _ _ _).congr (by simp), fun _ h => absurd h (by omega), fun _ h => absurd h (by omega), fun _ _ h => absurd h (by omega), (Below.refl _ _).alloc (Nat.le_refl _) _⟩
    case round =>
      obtain ⟨q, bk, hq, rfl, hH⟩ := hrel
      have HH := hide hH
      clear hH
      rcases Nat.lt_or_ge q c with hlt | hge
      · have HR2 := hide (HR.out.below HH.out.below)
        rcases HR2.out with h0 | ⟨b, o, e, hb, hcell⟩
        · omega
        cases e
        obtain ⟨bi, oi, ci, h1, h2, h3⟩ := hcell q hlt
        have H3 := hide h3
        clear h3 hcell
        have hmk2 := make_chunk wr
        go_wp2
        go_loopw [6] (fun i ws => ∃ j : Nat, j ≤ 1024 ∧ i = .int .i64 j ∧ ws.rowIs wr.heap.size 22 1024 (fun t => if t < j then .int .u16 (E (32 + 1024 * q + t)) else .int .u16 0) ∧ Below wr.heap.size wr ws) (fun i _ => 1024 - (intOf i).toNat)
        case atStart => exact ⟨0, by omega, rfl, (World.rowIs_made wr _ _ _).congr (by simp), (Below.refl _ _).alloc (Nat.le_refl _) _⟩
        case round =>
          obtain ⟨j, hj, rfl, hrow, hb2⟩ := hrel
          have hcq := (hb2.cell (p := ⟨b, o + q, none⟩) hb).trans h1
          have HB2 := hide hb2
          have HROW := hide hrow
          clear hrow hb2
          rcases Nat.lt_or_ge j 1024 with hlt2 | hge2
          · have hcj := (HB2.out.cell (p := ⟨bi, oi + j, none⟩) h2).trans (H3.out j hlt2)
            have f1 := HROW.out.frozen j
            have c1 := HROW.out.cell (i := j) (by omega)
            go_wp2
            go_roundw
            case rel =>
              refine ⟨j + 1, by omega, by go_num, (HROW.out.set j _).congr (fun t ht => ?_), HB2.out.setCell (Nat.le_refl _) _⟩
              by_cases e : t = j
              · subst e; simp
              · by_cases e2 : t < j
                · simp [e, e2, show t < j + 1 by omega]
                · simp [e, e2, show ¬ t < j + 1 by omega]
            case measure => simp [intOf]; omega
          · obtain rfl : j = 1024 := by omega
            clear hge2
            have hor := HH.out.outer.of_block (HB2.out.block _ HH.out.outer.lt)
            have f1 := hor.frozen q
            have c1 := hor.cell (i := q) hlt
            have HF := hide (HROW.out.congr (g := fun t => .int .u16 (E (32 + 1024 * q + t))) (fun t ht => by simp [ht]))
            clear hor
            go_wp2
            go_roundw
            case rel => exact ⟨q + 1, _, by omega, by go_num, HH.out.step hlt HF.out HB2.out⟩
            case measure => simp [intOf]; omega
      · obtain rfl : c = q := by omega
        clear hge
        go_wp2
        go_ret
        exact ⟨_, _, bk, rfl, HH.out.done hc, HH.out.below⟩

end Go.Proofs.Qxb6604049a
