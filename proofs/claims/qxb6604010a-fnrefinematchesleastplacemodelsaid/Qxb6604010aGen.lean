import Derived.Test.Qxb6604010aRefine
namespace Go.Proofs.Qxb6604010a
open Go.RowKit Go.Maps

/-- The generalization behind block g: its first fact, its rows 'varies' (block bv) and 'same' (block bs). -/
structure Gen (w : World) (g : Nat) (sp : Int) (a0 : Option Addr) (Lf Cf : Nat) (Z0 : Nat → Int) (bv Lv Cv bs Ls Cs : Nat) (V : Nat → Bool) (S : Nat → Int) : Prop where
  c0 : w.cell? ⟨g, 0, none⟩ = some (.int .i32 sp)
  c1 : w.cell? ⟨g, 1, none⟩ = some (.slice a0 Lf Cf)
  c2 : w.cell? ⟨g, 2, none⟩ = some (.slice (some ⟨bv, 0, none⟩) Lv Cv)
  c3 : w.cell? ⟨g, 3, none⟩ = some (.slice (some ⟨bs, 0, none⟩) Ls Cs)
  nil0 : a0 = none → Lf = 0 ∧ Cf = 0
  row0 : Lf = 0 ∨ ∃ b0 o0, a0 = some ⟨b0, o0, none⟩ ∧ b0 < w.heap.size ∧ b0 ≠ bv ∧ b0 ≠ bs ∧ ∀ j, j < Lf → w.cell? ⟨b0, o0 + j, none⟩ = some (.int .i32 (Z0 j))
  rv : w.rowIs bv 4 Lv (fun j => .bool (V j))
  rs : w.rowIs bs 3 Ls (fun j => .int .i64 (S j))
  hg : g < w.heap.size
  gv : g ≠ bv
  gs : g ≠ bs
  vs : bv ≠ bs
  wf : ∀ j, j < Ls → (Lit.int .i64 (S j)).wf = true

section
variable {w w' : World} {g : Nat} {sp : Int} {a0 : Option Addr} {Lf Cf : Nat} {Z0 : Nat → Int} {bv Lv Cv bs Ls Cs : Nat} {V : Nat → Bool} {S : Nat → Int}

theorem Gen.row (h : Gen w g sp a0 Lf Cf Z0 bv Lv Cv bs Ls Cs V S) : Row w a0 Lf Z0 := by
  rcases h.row0 with h0 | ⟨b0, o0, e, hl, _, _, hc⟩
  · exact .inl h0
  · exact .inr ⟨b0, o0, e, hl, hc⟩

theorem Gen.below (h : Gen w g sp a0 Lf Cf Z0 bv Lv Cv bs Ls Cs V S) (hb : Below w.heap.size w w') : Gen w' g sp a0 Lf Cf Z0 bv Lv Cv bs Ls Cs V S where
  c0 := (hb.cell (p := ⟨g, 0, none⟩) h.hg).trans h.c0
  c1 := (hb.cell (p := ⟨g, 1, none⟩) h.hg).trans h.c1
  c2 := (hb.cell (p := ⟨g, 2, none⟩) h.hg).trans h.c2
  c3 := (hb.cell (p := ⟨g, 3, none⟩) h.hg).trans h.c3
  nil0 := h.nil0
  row0 := by
    rcases h.row0 with h0 | ⟨b0, o0, e, hl, n1, n2, hc⟩
    · exact .inl h0
    · exact .inr ⟨b0, o0, e, Nat.lt_of_lt_of_le hl hb.size, n1, n2, fun j hj => (hb.cell (p := ⟨b0, o0 + j, none⟩) hl).trans (hc j hj)⟩
  rv := h.rv.of_block (hb.block bv h.rv.lt)
  rs := h.rs.of_block (hb.block bs h.rs.lt)
  hg := Nat.lt_of_lt_of_le h.hg hb.size
  gv := h.gv
  gs := h.gs
  vs := h.vs
  wf := h.wf

theorem Gen.drewN (h : Gen w g sp a0 Lf Cf Z0 bv Lv Cv bs Ls Cs V S) (q : Nat) : Gen (w.drewN q) g sp a0 Lf Cf Z0 bv Lv Cv bs Ls Cs V S :=
  ⟨h.c0, h.c1, h.c2, h.c3, h.nil0, h.row0, h.rv, h.rs, h.hg, h.gv, h.gs, h.vs, h.wf⟩

theorem wf_sAt (L : Nat) (hL : L ≤ 1048576) (F : Nat → Int) (hw : ∀ j, j < Ls → (Lit.int .i64 (S j)).wf = true) : ∀ j, j < Ls → (Lit.int .i64 (sAt L S F j)).wf = true := by
  intro j hj
  unfold sAt
  split
  · have := (least_spec (fun a => S a == S j && F a == F j) j).1
    have h2 : tied S F j ≤ j := this
    exact WalkArith.wf_i64 (by omega)
  · exact hw j hj

theorem Gen.turned (h : Gen w g sp a0 Lf Cf Z0 bv Lv Cv bs Ls Cs V S) (hk : Kept (fun k => k = bv ∨ k = bs) w w') {V' : Nat → Bool} {S' : Nat → Int} (hv : w'.rowIs bv 4 Lv (fun j => .bool (V' j))) (hs : w'.rowIs bs 3 Ls (fun j => .int .i64 (S' j)))
    (hw : ∀ j, j < Ls → (Lit.int .i64 (S' j)).wf = true) : Gen w' g sp a0 Lf Cf Z0 bv Lv Cv bs Ls Cs V' S' where
  c0 := (hk.cell (p := ⟨g, 0, none⟩) h.hg (fun e => e.elim h.gv h.gs)).trans h.c0
  c1 := (hk.cell (p := ⟨g, 1, none⟩) h.hg (fun e => e.elim h.gv h.gs)).trans h.c1
  c2 := (hk.cell (p := ⟨g, 2, none⟩) h.hg (fun e => e.elim h.gv h.gs)).trans h.c2
  c3 := (hk.cell (p := ⟨g, 3, none⟩) h.hg (fun e => e.elim h.gv h.gs)).trans h.c3
  nil0 := h.nil0
  row0 := by
    rcases h.row0 with h0 | ⟨b0, o0, e, hl, n1, n2, hc⟩
    · exact .inl h0
    · exact .inr ⟨b0, o0, e, Nat.lt_of_lt_of_le hl hk.size, n1, n2, fun j hj => (hk.cell (p := ⟨b0, o0 + j, none⟩) hl (fun e => e.elim n1 n2)).trans (hc j hj)⟩
  rv := hv
  rs := hs
  hg := Nat.lt_of_lt_of_le h.hg hk.size
  gv := h.gv
  gs := h.gs
  vs := h.vs
  wf := hw
end

theorem bdrewN {B : Nat} {a w : World} (h : Below B a w) (q : Nat) : Below B a (w.drewN q) := ⟨h.os, h.tape, h.output, h.size, h.block⟩

/-- The rows said otherwise. -/
theorem Gen.congr {w : World} {g : Nat} {sp : Int} {a0 : Option Addr} {Lf Cf : Nat} {Z0 : Nat → Int} {bv Lv Cv bs Ls Cs : Nat} {V V' : Nat → Bool} {S S' : Nat → Int} (h : Gen w g sp a0 Lf Cf Z0 bv Lv Cv bs Ls Cs V S) (hv : ∀ j, j < Lv → V j = V' j) (hs : ∀ j, j < Ls → S j = S' j) :
    Gen w g sp a0 Lf Cf Z0 bv Lv Cv bs Ls Cs V' S' :=
  ⟨h.c0, h.c1, h.c2, h.c3, h.nil0, h.row0, h.rv.congr (fun j hj => by rw [hv j hj]), h.rs.congr (fun j hj => by rw [hs j hj]), h.hg, h.gv, h.gs, h.vs, fun j hj => by rw [← hs j hj]; exact h.wf j hj⟩

set_option maxHeartbeats 400000 in
/-- ZZRefine of an empty fact. -/
theorem zzrefine_zero (x : Addr) (a : Option Addr) (C : Nat) (w : World) (hn : a = none → C = 0) :
    Calls Try.prog 16 #[.pointer (some x), .slice a 0 C] w fun e w' => e = .returned (.tuple #[]) ∧ Below w.heap.size w w' := by
  go_enter Try.func16, Try.ntmps16
  go_wp2_with fail
  refine (atom_any a 0 C (fun _ => 0) _ (by omega) (fun h => ⟨rfl, hn h⟩) (.inl rfl)).mono ?_
  rintro e w1 ⟨a', C', rfl, _, _, hb⟩
  go_wp2_with fail
  refine (refine_zero x a' C' _).mono ?_
  rintro e w2 ⟨rfl, hb2⟩
  go_wp2
  go_end0
  exact ⟨rfl, hb.trans (hb2.mono hb.size)⟩

set_option maxHeartbeats 400000 in
/-- ZZRefine. -/
theorem zzrefine_any (g : Nat) (sp : Int) (a0 : Option Addr) (Lf Cf : Nat) (Z0 : Nat → Int) (bv Lv Cv bs Ls Cs : Nat) (V : Nat → Bool) (S : Nat → Int) (a : Option Addr) (L C : Nat) (F : Nat → Int) (w : World)
    (hG : Gen w g sp a0 Lf Cf Z0 bv Lv Cv bs Ls Cs V S) (hL : L ≤ 1048576) (hLf : L ≤ Lf) (hLv : L ≤ Lv) (hLs : L ≤ Ls) (hLf2 : Lf ≤ 1048576)
    (hn : a = none → L = 0 ∧ C = 0) (hr : Row w a L F) (hwF : ∀ j, j < L → (Lit.int .i32 (F j)).wf = true) :
    Calls Try.prog 16 #[.pointer (some ⟨g, 0, none⟩), .slice a L C] w fun e w' => e = .returned (.tuple #[]) ∧ Gen w' g sp a0 Lf Cf Z0 bv Lv Cv bs Ls Cs (vAt L V F Z0) (sAt L S F) ∧ Kept (fun k => k = bv ∨ k = bs) w w' := by
  by_cases h0 : L = 0
  · subst h0
    refine (zzrefine_zero ⟨g, 0, none⟩ a C w (fun h => (hn h).2)).mono ?_
    rintro e w' ⟨rfl, hb⟩
    have hG' := hG.below hb
    have hk : Kept (fun k => k = bv ∨ k = bs) w w' := ⟨hb.os, hb.tape, hb.output, hb.size, fun k hk _ => hb.block k hk⟩
    exact ⟨rfl, hG.turned hk (hG'.rv.congr (by simp [vAt])) (hG'.rs.congr (by simp [sAt])) (wf_sAt 0 hL F hG.wf), hk⟩
  have HG := hide hG
  have HR := hide hr
  have HW := hide hwF
  clear hG hr hwF
  go_enter Try.func16, Try.ntmps16
  go_wp2_with fail
  refine (atom_any a L C F _ hL hn HR.out).mono ?_
  rintro e w1 ⟨a', C', rfl, _, hrow, hb⟩
  rcases hrow with hx | ⟨b, t, rfl, hB, hrow⟩
  · omega
  have G1 := hide (HG.out.below hb)
  obtain hx | ⟨b0, o0, rfl, hl0, n1, n2, hc0⟩ := G1.out.row0
  · omega
  have hvlt := HG.out.rv.lt
  have hslt := HG.out.rs.lt
  have RW := hide hrow
  have HC0 := hide hc0
  have HB := hide hb
  clear hrow hc0 hb
  go_wp2_with fail
  refine (refine_pos g b 0 L C' F b0 o0 Lf Cf Z0 bv Lv Cv Lv V bs Ls Cs Ls S _ hL hLf hLv hLs hLf2 G1.out.c1 G1.out.c2 G1.out.c3 G1.out.hg G1.out.gv G1.out.gs G1.out.vs hl0 n1 n2 RW.out.lt (by omega) (by omega)
    (fun j hj => by rw [Nat.zero_add]; exact RW.out.cell hj) (fun j hj => HC0.out j (by omega)) G1.out.rv hLv G1.out.rs hLs (fun j hj => G1.out.wf j (by omega)) HW.out).mono ?_
  rintro e w2 ⟨rfl, r1, r2, hk⟩
  go_wp2
  go_end0
  exact ⟨rfl, G1.out.turned hk r1 r2 (wf_sAt L hL F G1.out.wf), hk.after HB.out⟩

end Go.Proofs.Qxb6604010a
