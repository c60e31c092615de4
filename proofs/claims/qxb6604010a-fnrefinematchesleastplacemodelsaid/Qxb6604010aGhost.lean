import Derived.Test.Qxb6604010aKeys
namespace Go.Proofs.Qxb6604010a
open Go.RowKit Go.Maps

/-- The map 'firstOf' after k places: at each tie the least place that bears it. -/
def MapOk (D : DataW Unit) (L k : Nat) (S F : Nat → Int) : Prop :=
  ∀ p, p < L →
    ((∀ a, a < k → ¬ (S a = S p ∧ F a = F p)) → Maps.has D (tieKey (S p) (F p)) = false) ∧
    (∀ a, a < k → S a = S p → F a = F p → (∀ c, c < a → ¬ (S c = S p ∧ F c = F p)) → Maps.has D (tieKey (S p) (F p)) = true ∧ D.atKey (tieKey (S p) (F p)) (.lit (.int .i64 0)) = .lit (.int .i64 a))

theorem tie_p {S F : Nat → Int} {p a : Nat} : (S a == S p && F a == F p) = true ↔ S a = S p ∧ F a = F p := by simp
theorem tie_n {S F : Nat → Int} {p a : Nat} : (S a == S p && F a == F p) = false ↔ ¬ (S a = S p ∧ F a = F p) := by
  rw [← Bool.not_eq_true, tie_p]

theorem mapOk_start (L : Nat) (S F : Nat → Int) : MapOk (.map []) L 0 S F := by
  intro p _
  exact ⟨fun _ => rfl, fun a ha => absurd ha (Nat.not_lt_zero _)⟩

/-- Is there a place before k that bears the tie of p? If so, the least one. -/
theorem tie_split (S F : Nat → Int) (p k : Nat) : (∀ a, a < k → ¬ (S a = S p ∧ F a = F p)) ∨ ∃ a, a < k ∧ S a = S p ∧ F a = F p ∧ ∀ c, c < a → ¬ (S c = S p ∧ F c = F p) := by
  obtain ⟨h1, h2, h3⟩ := least_spec (fun a => S a == S p && F a == F p) k
  rcases Nat.lt_or_ge (least (fun a => S a == S p && F a == F p) k) k with hl | hl
  · exact .inr ⟨_, hl, (tie_p.1 (h3 hl)).1, (tie_p.1 (h3 hl)).2, fun c hc => tie_n.1 (h2 c hc)⟩
  · exact .inl fun a ha => tie_n.1 (h2 a (by omega))

theorem MapOk.hit {D : DataW Unit} {L k : Nat} {S F : Nat → Int} (h : MapOk D L k S F) (hk : k < L) (hh : Maps.has D (tieKey (S k) (F k)) = true) {c : Int} (hc : D.atKey (tieKey (S k) (F k)) (.lit (.int .i64 0)) = .lit (.int .i64 c)) :
    c = (tied S F k : Nat) ∧ MapOk D L (k + 1) S F := by
  rcases tie_split S F k k with h0 | ⟨a, ha, e1, e2, hmin⟩
  · rw [(h k hk).1 h0] at hh; cases hh
  · have h2 := ((h k hk).2 a ha e1 e2 hmin).2
    rw [hc] at h2
    have hca : c = (a : Int) := by simpa using h2
    have ht : tied S F k = a := least_hit (p := fun a => S a == S k && F a == F k) ha (tie_p.2 ⟨e1, e2⟩) (fun c hc => tie_n.2 (hmin c hc))
    refine ⟨by rw [ht]; exact hca, fun p hp => ⟨fun hno => (h p hp).1 fun b hb => hno b (by omega), fun b hb f1 f2 hm => ?_⟩⟩
    rcases Nat.lt_succ_iff_lt_or_eq.1 hb with hb | rfl
    · exact (h p hp).2 b hb f1 f2 hm
    · exact absurd ⟨e1.trans f1, e2.trans f2⟩ (hm a ha)

theorem MapOk.miss {D : DataW Unit} {L k : Nat} {S F : Nat → Int} (h : MapOk D L k S F) (hD : IsMap D) (hk : k < L) (hS : ∀ j, j < L → (Lit.int .i64 (S j)).wf = true) (hF : ∀ j, j < L → (Lit.int .i32 (F j)).wf = true)
    (hh : Maps.has D (tieKey (S k) (F k)) = false) :
    tied S F k = k ∧ MapOk (D.put (tieKey (S k) (F k)) (.lit (.int .i64 k))) L (k + 1) S F := by
  have hkey : WideAt.IsKeyLit (tieKey (S k) (F k)) := trivial
  rcases tie_split S F k k with h0 | ⟨a, ha, e1, e2, hmin⟩
  · refine ⟨least_none (p := fun a => S a == S k && F a == F k) fun c hc => tie_n.2 (h0 c hc), fun p hp => ?_⟩
    by_cases e : S k = S p ∧ F k = F p
    · rw [← e.1, ← e.2]
      refine ⟨fun hno => absurd ⟨rfl, rfl⟩ (hno k (by omega)), fun b hb f1 f2 hm => ?_⟩
      rcases Nat.lt_succ_iff_lt_or_eq.1 hb with hb | rfl
      · exact absurd ⟨f1, f2⟩ (h0 b hb)
      · exact ⟨has_put_same hD hkey _, atKey_put_same hD hkey _ _⟩
    · have hne : tieKey (S p) (F p) ≠ tieKey (S k) (F k) := fun hx => e (by
        obtain ⟨x1, x2⟩ := tieKey_inj (hS p hp) (hF p hp) (hS k hk) (hF k hk) hx
        exact ⟨x1.symm, x2.symm⟩)
      rw [has_put_other hne, atKey_put_other hne]
      refine ⟨fun hno => (h p hp).1 fun b hb => hno b (by omega), fun b hb f1 f2 hm => ?_⟩
      rcases Nat.lt_succ_iff_lt_or_eq.1 hb with hb | rfl
      · exact (h p hp).2 b hb f1 f2 hm
      · exact absurd ⟨f1, f2⟩ e
  · rw [((h k hk).2 a ha e1 e2 hmin).1] at hh; cases hh

/-- Of what was there nothing has turned but the blocks in T. -/
structure Kept (T : Nat → Prop) (w w' : World) : Prop where
  os : w'.os = w.os
  tape : w'.tape = w.tape
  output : w'.output = w.output
  size : w.heap.size ≤ w'.heap.size
  block : ∀ k, k < w.heap.size → ¬ T k → w'.heap[k]? = w.heap[k]?

section
variable {T : Nat → Prop} {a w w' : World}
theorem Kept.refl (T : Nat → Prop) (w : World) : Kept T w w := ⟨rfl, rfl, rfl, Nat.le_refl _, fun _ _ _ => rfl⟩
theorem Kept.step (h : Kept T a w) (h1 : w'.os = w.os) (h2 : w'.tape = w.tape) (h3 : w'.output = w.output) (h4 : w.heap.size ≤ w'.heap.size) (h5 : ∀ k, k < a.heap.size → ¬ T k → w'.heap[k]? = w.heap[k]?) : Kept T a w' :=
  ⟨h1.trans h.os, h2.trans h.tape, h3.trans h.output, Nat.le_trans h.size h4, fun k hk hT => (h5 k hk hT).trans (h.block k hk hT)⟩
theorem Kept.alloc (h : Kept T a w) (o : Obj) : Kept T a (w.alloc o) :=
  h.step rfl rfl rfl (by simp) fun k hk _ => Below.heap_alloc _ _ _ (Nat.lt_of_lt_of_le hk h.size)
theorem Kept.setCell (h : Kept T a w) {p : Addr} (hp : T p.block ∨ a.heap.size ≤ p.block) (u : Value) : Kept T a (w.setCell p u) :=
  h.step rfl rfl rfl (by simp [World.setCell]) fun k hk hT => Below.heap_setCell _ _ _ _ (fun e => by subst e; exact hp.elim hT (fun h => by omega))
theorem Kept.grown {b : Nat} (h : Kept T a w) (hg : w.grownBy w' (some b)) (hb : a.heap.size ≤ b) : Kept T a w' :=
  h.step hg.os hg.tape hg.output hg.size fun k hk _ => hg.block k (Nat.lt_of_lt_of_le hk h.size) (fun e => by cases e; omega)
theorem Kept.drewN (h : Kept T a w) (q : Nat) : Kept T a (w.drewN q) := ⟨h.os, h.tape, h.output, h.size, h.block⟩
theorem Kept.cell (h : Kept T w w') {p : Addr} (hp : p.block < w.heap.size) (hT : ¬ T p.block) : w'.cell? p = w.cell? p := World.cell?_of_block (w := w) (h.block p.block hp hT)
theorem Kept.frozen (h : Kept T w w') {p : Addr} (hp : p.block < w.heap.size) (hT : ¬ T p.block) : w'.frozen? p = w.frozen? p := World.frozen?_of_block (w := w) (h.block p.block hp hT)
theorem Kept.below (h : Kept T w w') {B : Nat} (hB : B ≤ w.heap.size) (hT : ∀ k, T k → B ≤ k) : Below B w w' :=
  ⟨h.os, h.tape, h.output, h.size, fun k hk => h.block k (by omega) (fun e => by have := hT k e; omega)⟩
theorem Kept.after (h : Below a.heap.size a w) (h' : Kept T w w') : Kept T a w' :=
  ⟨h'.os.trans h.os, h'.tape.trans h.tape, h'.output.trans h.output, Nat.le_trans h.size h'.size, fun k hk hT => (h'.block k (Nat.lt_of_lt_of_le hk h.size) hT).trans (h.block k hk)⟩
end

end Go.Proofs.Qxb6604010a
