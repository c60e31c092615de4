import Derived.Test.Qxb6604049aBase
namespace Go.Proofs.Qxb6604049a
open Go.RowKit

def upd (E : Nat → Int) (i : Nat) (x : Int) (j : Nat) : Int := if j = i then x else E j

/-- An openGroups in block g, with its chunks. -/
structure Stk (w : World) (B g : Nat) (d n : Int) (E : Nat → Int) (ao : Option Addr) (c cap : Nat) (bk : Nat → Nat) : Prop where
  row : w.rowIs g 39 35 (gCell d n E (.slice ao c cap))
  ch : Chunks w B ao c cap bk E
  gB : B ≤ g
  gk : ∀ i, i < c → g ≠ bk i
  go : (Value.slice ao c cap).ownBlock ≠ some g

theorem Chunks.drewN {w : World} {B : Nat} {ao : Option Addr} {c cap : Nat} {bk : Nat → Nat} {E : Nat → Int} (h : Chunks w B ao c cap bk E) (q : Nat) : Chunks (w.drewN q) B ao c cap bk E :=
  ⟨h.own, h.rows, h.ge, h.inj, h.out⟩

/-- What is owned stays owned while another block is written. -/
theorem owns_setCell {w : World} {B e s : Nat} {v : Value} {n : Nat} {xs : List Value} (h : w.ownsRow B e s v n xs) {a : Addr} (ha : v.ownBlock ≠ some a.block) (u : Value) : (w.setCell a u).ownsRow B e s v n xs := by
  obtain ⟨h1, h2⟩ := h
  refine ⟨h1, ?_⟩
  rcases h2 with h2 | ⟨g, cap, cur, rfl, hb, hg, r⟩
  · exact .inl h2
  · refine .inr ⟨g, cap, cur, rfl, hb, ?_, r⟩
    rw [Below.heap_setCell _ _ _ _ (fun e => ha (by simp [Value.ownBlock, e]))]
    exact hg

theorem Chunks.setOther {w : World} {B : Nat} {ao : Option Addr} {c cap : Nat} {bk : Nat → Nat} {E : Nat → Int} (h : Chunks w B ao c cap bk E) {a : Addr} (h1 : ∀ i, i < c → bk i ≠ a.block) (h2 : (Value.slice ao c cap).ownBlock ≠ some a.block) (u : Value) :
    Chunks (w.setCell a u) B ao c cap bk E :=
  ⟨owns_setCell h.own h2 u, fun i hi => (h.rows i hi).setOther (h1 i hi) u, h.ge, h.inj, h.out⟩

theorem Chunks.congr {w : World} {B : Nat} {ao : Option Addr} {c cap : Nat} {bk : Nat → Nat} {E E' : Nat → Int} (h : Chunks w B ao c cap bk E) (e : ∀ j, 32 ≤ j → j < 32 + 1024 * c → E j = E' j) : Chunks w B ao c cap bk E' :=
  ⟨h.own, fun i hi => (h.rows i hi).congr (fun j hj => by rw [e _ (by omega) (by omega)]), h.ge, h.inj, h.out⟩

/-- A store into a chunk. -/
theorem Chunks.set {w : World} {B : Nat} {ao : Option Addr} {c cap : Nat} {bk : Nat → Nat} {E : Nat → Int} (h : Chunks w B ao c cap bk E) (i : Nat) (hi : 32 ≤ i) (hic : i < 32 + 1024 * c) (x : Int) :
    Chunks (w.setCell ⟨bk ((i - 32) / 1024), (i - 32) % 1024, none⟩ (.int .u16 x)) B ao c cap bk (upd E i x) := by
  have hq : (i - 32) / 1024 < c := by omega
  refine ⟨owns_setCell h.own (h.out _ hq) _, fun k hk => ?_, h.ge, h.inj, h.out⟩
  by_cases e : k = (i - 32) / 1024
  · subst e
    refine ((h.rows _ hk).set _ _).congr (fun j hj => ?_)
    unfold upd
    by_cases e2 : j = (i - 32) % 1024
    · subst e2
      rw [if_pos rfl, if_pos (by omega)]
    · rw [if_neg e2, if_neg (by omega)]
  · refine ((h.rows k hk).setOther (fun e' => e (h.inj _ _ hk hq e')) _).congr (fun j hj => ?_)
    unfold upd
    rw [if_neg (by omega)]

/-- Of what was there nothing has turned but the blocks in T. -/
structure Kept (T : Nat → Prop) (w w' : World) : Prop where
  os : w'.os = w.os
  tape : w'.tape = w.tape
  output : w'.output = w.output
  size : w.heap.size ≤ w'.heap.size
  block : ∀ k, k < w.heap.size → ¬ T k → w'.heap[k]? = w.heap[k]?

section
variable {T : Nat → Prop} {a w w' : World}
theorem Kept.refl (T : Nat → Prop) (w : World) : Kept T w w := ⟨rfl, rfl, rfl, Nat.le_refl _, fun _ _ _ => rfl⟩
theorem Kept.trans (h : Kept T a w) (h' : Kept T w w') : Kept T a w' :=
  ⟨h'.os.trans h.os, h'.tape.trans h.tape, h'.output.trans h.output, Nat.le_trans h.size h'.size, fun k hk hT => (h'.block k (Nat.lt_of_lt_of_le hk h.size) hT).trans (h.block k hk hT)⟩
theorem Kept.setCell (h : Kept T a w) {p : Addr} (hp : T p.block ∨ a.heap.size ≤ p.block) (u : Value) : Kept T a (w.setCell p u) :=
  ⟨h.os, h.tape, h.output, by simpa [World.setCell] using h.size, fun k hk hT => (Below.heap_setCell _ _ _ _ (fun e => by subst e; exact hp.elim hT (fun h => by omega))).trans (h.block k hk hT)⟩
theorem Kept.drewN (h : Kept T a w) (q : Nat) : Kept T a (w.drewN q) := ⟨h.os, h.tape, h.output, h.size, h.block⟩
end

/-- The blocks that push may write: the struct's own, a chunk's, the outer row's. -/
def tch (g : Nat) (ao : Option Addr) (c cap : Nat) (bk : Nat → Nat) (k : Nat) : Prop := k = g ∨ (∃ i, i < c ∧ k = bk i) ∨ (Value.slice ao c cap).ownBlock = some k

section
variable {w : World} {B g : Nat} {d n : Int} {E : Nat → Int} {ao : Option Addr} {c cap : Nat} {bk : Nat → Nat}

theorem Stk.cd (h : Stk w B g d n E ao c cap bk) : w.cell? ⟨g, 0, none⟩ = some (.int .i64 d) := by simpa [gCell] using h.row.cell (i := 0) (by omega)
theorem Stk.cn (h : Stk w B g d n E ao c cap bk) : w.cell? ⟨g, 1, none⟩ = some (.int .i64 n) := by simpa [gCell] using h.row.cell (i := 1) (by omega)
theorem Stk.cc (h : Stk w B g d n E ao c cap bk) : w.cell? ⟨g, 34, none⟩ = some (.slice ao c cap) := by simpa [gCell] using h.row.cell (i := 34) (by omega)
theorem Stk.fz (h : Stk w B g d n E ao c cap bk) (j : Nat) : w.frozen? ⟨g, j, none⟩ = false := h.row.frozen j

theorem Stk.drewN (h : Stk w B g d n E ao c cap bk) (q : Nat) : Stk (w.drewN q) B g d n E ao c cap bk := ⟨h.row, h.ch.drewN q, h.gB, h.gk, h.go⟩

theorem Stk.setD (h : Stk w B g d n E ao c cap bk) (d' : Int) : Stk (w.setCell ⟨g, 0, none⟩ (.int .i64 d')) B g d' n E ao c cap bk :=
  ⟨(h.row.set 0 _).congr (fun j _ => by unfold gCell; by_cases e : j = 0 <;> simp [e]), h.ch.setOther (fun i hi => (h.gk i hi).symm) h.go _, h.gB, h.gk, h.go⟩

theorem Stk.setN (h : Stk w B g d n E ao c cap bk) (n' : Int) : Stk (w.setCell ⟨g, 1, none⟩ (.int .i64 n')) B g d n' E ao c cap bk :=
  ⟨(h.row.set 1 _).congr (fun j _ => by unfold gCell; by_cases e : j = 1 <;> simp [e]), h.ch.setOther (fun i hi => (h.gk i hi).symm) h.go _, h.gB, h.gk, h.go⟩

theorem Stk.congr (h : Stk w B g d n E ao c cap bk) {E' : Nat → Int} (e : ∀ j, j < 32 + 1024 * c → E j = E' j) : Stk w B g d n E' ao c cap bk :=
  ⟨h.row.congr (fun j hj => by
      unfold gCell
      by_cases h0 : j = 0
      · simp [h0]
      · by_cases h1 : j = 1
        · simp [h1]
        · by_cases h2 : j < 34
          · simp only [h0, h1, h2, if_true, if_false]; rw [e (j - 2) (by omega)]
          · simp only [h0, h1, h2, if_false]), h.ch.congr (fun j _ hj => e j hj), h.gB, h.gk, h.go⟩

/-- Entry i, as it is read. -/
theorem Stk.entry (h : Stk w B g d n E ao c cap bk) {i : Nat} (hi : i < 32 + 1024 * c) : w.cell? (eAddr g bk i) = some (.int .u16 (E i)) ∧ w.frozen? (eAddr g bk i) = false := by
  unfold eAddr
  by_cases h1 : i < 32
  · rw [if_pos h1]
    refine ⟨?_, h.row.frozen _⟩
    have := h.row.cell (i := 2 + i) (by omega)
    unfold gCell at this
    rw [if_neg (by omega), if_neg (by omega), if_pos (by omega), show 2 + i - 2 = i by omega] at this
    exact this
  · rw [if_neg h1]
    have hq : (i - 32) / 1024 < c := by omega
    refine ⟨?_, (h.ch.rows _ hq).frozen _⟩
    have := (h.ch.rows _ hq).cell (i := (i - 32) % 1024) (by omega)
    rw [show 32 + 1024 * ((i - 32) / 1024) + (i - 32) % 1024 = i by omega] at this
    exact this

/-- A store into entry i. -/
theorem Stk.setE (h : Stk w B g d n E ao c cap bk) {i : Nat} (hi : i < 32 + 1024 * c) (x : Int) : Stk (w.setCell (eAddr g bk i) (.int .u16 x)) B g d n (upd E i x) ao c cap bk := by
  unfold eAddr
  by_cases h1 : i < 32
  · rw [if_pos h1]
    refine ⟨(h.row.set (2 + i) _).congr (fun j hj => ?_), (h.ch.setOther (fun k hk => (h.gk k hk).symm) h.go _).congr (fun j h32 _ => by unfold upd; rw [if_neg (by omega)]), h.gB, h.gk, h.go⟩
    unfold gCell upd
    by_cases e : j = 2 + i
    · subst e
      rw [if_pos rfl, if_neg (by omega), if_neg (by omega), if_pos (by omega), if_pos (by omega)]
    · rw [if_neg e]
      by_cases h0 : j = 0
      · simp [h0]
      · by_cases h2 : j = 1
        · simp [h2]
        · by_cases h3 : j < 34
          · simp only [h0, h2, h3, if_true, if_false]; rw [if_neg (by omega)]
          · simp only [h0, h2, h3, if_false]
  · rw [if_neg h1]
    have hq : (i - 32) / 1024 < c := by omega
    refine ⟨(h.row.setOther (h.gk _ hq) _).congr (fun j hj => ?_), h.ch.set i (by omega) hi x, h.gB, h.gk, h.go⟩
    unfold gCell upd
    by_cases h0 : j = 0
    · simp [h0]
    · by_cases h2 : j = 1
      · simp [h2]
      · by_cases h3 : j < 34
        · simp only [h0, h2, h3, if_true, if_false]; rw [if_neg (by omega)]
        · simp only [h0, h2, h3, if_false]

theorem Stk.eB (h : Stk w B g d n E ao c cap bk) {i : Nat} (hi : i < 32 + 1024 * c) : B ≤ (eAddr g bk i).block := by
  unfold eAddr
  split
  · exact h.gB
  · exact h.ch.ge _ (by omega)

theorem Stk.eT (_h : Stk w B g d n E ao c cap bk) {i : Nat} (hi : i < 32 + 1024 * c) : tch g ao c cap bk (eAddr g bk i).block := by
  unfold eAddr
  split
  · exact .inl rfl
  · exact .inr (.inl ⟨_, by omega, rfl⟩)

theorem Stk.below (h : Stk w B g d n E ao c cap bk) {w' : World} (hk : Kept (tch g ao c cap bk) w w') : Below B w w' :=
  ⟨hk.os, hk.tape, hk.output, hk.size, fun k hB => hk.block k (Nat.lt_of_lt_of_le hB (Nat.le_trans h.gB (Nat.le_of_lt h.row.lt))) (fun e => by
    rcases e with rfl | ⟨i, hi, rfl⟩ | e
    · have := h.gB; omega
    · have := h.ch.ge i hi; omega
    · have := (h.ch.own.lt k e).1; omega)⟩

/-- (*openGroups).entry -/
theorem entry_any (h : Stk w B g d n E ao c cap bk) {i : Nat} (hi : i < 32 + 1024 * c) (hc : c ≤ 1048576) :
    Calls Try.prog 15 #[.pointer (some ⟨g, 0, none⟩), .int .i64 i] w fun e w' => e = .returned (.pointer (some (eAddr g bk i))) ∧ w' = w := by
  unfold eAddr
  by_cases h1 : i < 32
  · rw [if_pos h1]; exact entry_first g i h1 w
  · rw [if_neg h1]; exact entry_chunk g i B c cap ao bk E (by omega) hi hc w h.cc h.ch
end

end Go.Proofs.Qxb6604049a
