import Derived.Test.Qxb6604049aPush
namespace Go.Proofs.Qxb6604049a
open Go.RowKit

/-- A new chunk. -/
def zeros : Array Value := madeCells #[.int .u16 0] 1024

theorem make_chunk (w : World) : (Instr.makeSlice 26 (.int .i64 1024) (.int .i64 1024)).run Try.prog w = .ok (.slice (some ⟨w.heap.size, 0, none⟩) 1024 1024) (w.alloc (.cells zeros 22)) :=
  run_make_row' (P := Try.prog) 26 22 (.int .u16 0) 2 Try.underlying26 info22 rfl .i64 .i64 1024 (by omega) (by omega) w

/-- What lies behind the last cell is nought. -/
def ext (E : Nat → Int) (c : Nat) (j : Nat) : Int := if j < 32 + 1024 * c then E j else 0

theorem Stk.grow {w : World} {B g : Nat} {d n : Int} {E : Nat → Int} {ao : Option Addr} {c cap : Nat} {bk : Nat → Nat} (H : Stk w B g d n E ao c cap bk) (hc : c ≤ 65536) (s : Nat) (hs : w.heap.size = s) :
    ∃ g' cap' w1, (Builtin.append_ #[24, 24] 24 #[.slice ao c cap, .slice (some ⟨s + 1, 0, none⟩) 1 1]).run Try.prog ((w.alloc (.cells zeros 22)).alloc (.cells #[.slice (some ⟨s, 0, none⟩) 1024 1024] 26)) = .ok (.slice (some ⟨g', 0, none⟩) (c + 1) cap') w1 ∧
      w1.cell? ⟨g, 34, none⟩ = some (.slice ao c cap) ∧ w1.frozen? ⟨g, 34, none⟩ = false ∧
      Stk (w1.setCell ⟨g, 34, none⟩ (.slice (some ⟨g', 0, none⟩) (c + 1) cap')) B g d n (ext E c) (some ⟨g', 0, none⟩) (c + 1) cap' (fun i => if i = c then s else bk i) ∧
      Kept (tch g ao c cap bk) w (w1.setCell ⟨g, 34, none⟩ (.slice (some ⟨g', 0, none⟩) (c + 1) cap')) := by
  subst hs
  have hglt := H.row.lt
  have hB : B ≤ w.heap.size := Nat.le_trans H.gB (Nat.le_of_lt hglt)
  obtain ⟨i0, hi, hz0, hz1, hz2⟩ := info_parts info26
  -- the world at the append
  obtain ⟨W, hW⟩ : ∃ W, W = (w.alloc (.cells zeros 22)).alloc (.cells #[.slice (some ⟨w.heap.size, 0, none⟩) 1024 1024] 26) := ⟨_, rfl⟩
  have hWs : W.heap.size = w.heap.size + 2 := by rw [hW]; simp
  have hold : ∀ k, k < w.heap.size → W.heap[k]? = w.heap[k]? := fun k hk => by
    rw [hW]
    show ((w.alloc (.cells zeros 22)).alloc _).heap[k]? = _
    rw [Below.heap_alloc _ _ _ (by simp; omega), Below.heap_alloc _ _ _ hk]
  have hown : W.ownsRow B 26 1 (.slice ao c cap) c ((List.range c).map fun i => .slice (some ⟨bk i, 0, none⟩) 1024 1024) := by
    rw [hW]; exact (H.ch.own.alloc _).alloc _
  have hcell : W.cell? ⟨w.heap.size + 1, 0, none⟩ = some (.slice (some ⟨w.heap.size, 0, none⟩) 1024 1024) := by rw [hW]; simp
  have hzr : W.rowIs w.heap.size 22 1024 (fun _ => .int .u16 0) := by
    rw [hW]; exact (World.rowIs_made w _ _ _).alloc _
  obtain ⟨g', cap', w1, hrun, hown1, hgrow, hat, hlt⟩ := run_append_lies (P := Try.prog) W 24 24 B 26 i0 (.slice none 0 0) 1 24 Try.underlying24 hi hz0 hz1 hz2 rfl (by omega) (.slice ao c cap) c _ hown ⟨w.heap.size + 1, 0, none⟩ 1 1 [.slice (some ⟨w.heap.size, 0, none⟩) 1024 1024] rfl
    (fun j u hj => by
      match j, hj with
      | 0, hj => simp at hj; subst hj; simpa [Addr.add] using hcell)
    (fun u hu => by simp at hu; subst hu; rfl) (by omega) (by unfold maxLen; omega) (by omega) (by omega) (w.heap.size + 2) hWs
  rw [hW] at hrun
  -- the old outer row lies among the old blocks
  have hob : ∀ k, (Value.slice ao c cap).ownBlock = some k → k < w.heap.size := fun k hk => (H.ch.own.lt k hk).2
  have hblk : ∀ k, k < w.heap.size → (Value.slice ao c cap).ownBlock ≠ some k → w1.heap[k]? = w.heap[k]? := fun k hk hne =>
    (hgrow.block k (by omega) (fun e => hne e.symm)).trans (hold k hk)
  have hnew : w1.heap[w.heap.size]? = W.heap[w.heap.size]? := hgrow.block _ (by omega) (fun e => by have := hob _ e.symm; omega)
  have hg'g : g' ≠ g := by
    rcases hat with h | h
    · exact fun e => H.go (by rw [h, e])
    · omega
  have hrow1 : w1.rowIs g 39 35 (gCell d n E (.slice ao c cap)) := H.row.of_block (hblk g hglt H.go)
  have hbklt : ∀ i, i < c → bk i < w.heap.size := fun i hi => (H.ch.rows i hi).lt
  refine ⟨g', cap', w1, hrun, ?_, hrow1.frozen 34, ⟨?_, ?_, H.gB, ?_, ?_⟩, ?_⟩
  · simpa [gCell] using hrow1.cell (i := 34) (by omega)
  · refine (hrow1.set 34 _).congr (fun j hj => ?_)
    unfold gCell ext
    by_cases e : j = 34
    · subst e; simp
    · rw [if_neg e]
      by_cases h0 : j = 0
      · simp [h0]
      · by_cases h1 : j = 1
        · simp [h1]
        · have h2 : j < 34 := by omega
          simp only [h0, h1, h2, if_true, if_false]
          rw [if_pos (by omega)]
  · refine ⟨?_, fun i hi => ?_, fun i hi => ?_, fun i j hi hj e => ?_, fun i hi => ?_⟩
    · refine owns_setCell ?_ (by simp [Value.ownBlock, hg'g]) _
      have e : (List.range c).map (fun i => Value.slice (some ⟨bk i, 0, none⟩) 1024 1024) ++ [.slice (some ⟨w.heap.size, 0, none⟩) 1024 1024] = (List.range (c + 1)).map (fun i => Value.slice (some ⟨if i = c then w.heap.size else bk i, 0, none⟩) 1024 1024) := by
        rw [List.range_succ, List.map_append]
        congr 1
        · refine List.map_congr_left (fun i hi => ?_)
          have : i ≠ c := by have := List.mem_range.1 hi; omega
          simp [this]
        · simp
      rw [← e]
      exact hown1
    · by_cases e : i = c
      · subst e
        rw [if_pos rfl]
        refine ((hzr.of_block hnew).setOther (by simp; omega) _).congr (fun j hj => ?_)
        unfold ext
        rw [if_neg (by omega)]
      · rw [if_neg e]
        have hic : i < c := by omega
        refine (((H.ch.rows i hic).of_block (hblk _ (hbklt i hic) (H.ch.out i hic))).setOther (by simpa using (H.gk i hic).symm) _).congr (fun j hj => ?_)
        unfold ext
        rw [if_pos (by omega)]
    · by_cases e : i = c
      · simp [e]; exact hB
      · simp only [e, if_false]; exact H.ch.ge i (by omega)
    · by_cases e1 : i = c
      · by_cases e2 : j = c
        · omega
        · simp only [e1, e2, if_true, if_false] at e
          have := hbklt j (by omega)
          omega
      · by_cases e2 : j = c
        · simp only [e1, e2, if_true, if_false] at e
          have := hbklt i (by omega)
          omega
        · simp only [e1, e2, if_false] at e
          exact H.ch.inj i j (by omega) (by omega) e
    · simp only [Value.ownBlock]
      by_cases e : i = c
      · simp only [e, if_true]
        rcases hat with h | h
        · have := hob _ h
          intro he
          simp at he
          omega
        · intro he
          simp at he
          omega
      · simp only [e, if_false]
        have hic : i < c := by omega
        rcases hat with h | h
        · intro he
          simp at he
          exact H.ch.out i hic (by rw [h, he])
        · have := hbklt i hic
          intro he
          simp at he
          omega
  · intro i hi
    by_cases e : i = c
    · simp only [e, if_true]; omega
    · simp only [e, if_false]; exact H.gk i (by omega)
  · simp [Value.ownBlock, hg'g]
  · have b1 : Kept (tch g ao c cap bk) w w1 := ⟨hgrow.os.trans (by rw [hW]; rfl), hgrow.tape.trans (by rw [hW]; rfl), hgrow.output.trans (by rw [hW]; rfl), Nat.le_trans (by omega) hgrow.size, fun k hk hT => hblk k hk (fun e => hT (.inr (.inr e)))⟩
    exact b1.setCell (.inl (.inl rfl)) _

end Go.Proofs.Qxb6604049a
