import Derived.Test.Qxb6604010aClones
namespace Go.Proofs.Qxb6604010a
open Go.RowKit Go.Maps

theorem OwnV.rowV {B : Nat} {w : World} {t : TypeId} {a : Option Addr} {L : Nat} {G : Nat → Value} (h : OwnV B w t a L G) : RowV w a L G := by
  rcases h with ⟨_, h⟩ | ⟨b, ha, _, hr⟩
  · exact .inl h
  · exact .inr ⟨b, 0, ha, hr.lt, fun j hj => by rw [Nat.zero_add]; exact hr.cell hj⟩

theorem OwnV.below {B B' : Nat} {w w' : World} {t : TypeId} {a : Option Addr} {L : Nat} {G : Nat → Value} (h : OwnV B w t a L G) (hb : Below B' w w') (hB : w.heap.size ≤ B') : OwnV B w' t a L G := by
  rcases h with h | ⟨b, ha, hB', hr⟩
  · exact .inl h
  · exact .inr ⟨b, ha, hB', hr.of_block (hb.block b (Nat.lt_of_lt_of_le hr.lt hB))⟩

theorem RowV.congr {w : World} {a : Option Addr} {L : Nat} {G G' : Nat → Value} (h : RowV w a L G) (e : ∀ j, j < L → G j = G' j) : RowV w a L G' := by
  rcases h with h | ⟨b, o, ha, hl, hc⟩
  · exact .inl h
  · exact .inr ⟨b, o, ha, hl, fun j hj => by rw [← e j hj]; exact hc j hj⟩

/-- ZZRefine in the law: what is read behind it. -/
theorem step_any (s0 s1 s2 g : Nat) (sp : Int) (a0 : Option Addr) (L1 C0 : Nat) (Z0 : Nat → Int) (b2 : Option Addr) (L2 D2 : Nat) (V : Nat → Bool) (b3 : Option Addr) (L3 D3 : Nat) (S : Nat → Int) (b4 : Option Addr) (L4 D4 : Nat) (F : Nat → Int) (w : World)
    (c0 : w.cell? ⟨g, 0, none⟩ = some (.int .i32 sp)) (c1 : w.cell? ⟨g, 1, none⟩ = some (.slice a0 L1 C0)) (c2 : w.cell? ⟨g, 2, none⟩ = some (.slice b2 L2 D2)) (c3 : w.cell? ⟨g, 3, none⟩ = some (.slice b3 L3 D3))
    (hs01 : s0 ≤ s1) (hs12 : s1 ≤ s2) (hg : s2 ≤ g) (hgl : g < w.heap.size) (hn0 : a0 = none → L1 = 0 ∧ C0 = 0) (hr0 : NewRow s2 w a0 L1 Z0)
    (hv : OwnV s0 w 4 b2 L2 (fun j => .bool (V j))) (hvl : ∀ b, b2 = some ⟨b, 0, none⟩ → b < s1) (hs : OwnV s1 w 3 b3 L3 (fun j => .int .i64 (S j))) (hsl : ∀ b, b3 = some ⟨b, 0, none⟩ → b < s2)
    (hn4 : b4 = none → L4 = 0 ∧ D4 = 0) (hr4 : Row w b4 L4 F) (h1 : L1 ≤ 1048576) (h4 : L4 ≤ 1048576) (g1 : L4 ≤ L1) (g2 : L4 ≤ L2) (g3 : L4 ≤ L3) (wF : ∀ j, j < L4 → (Lit.int .i32 (F j)).wf = true) (wS : ∀ j, j < L3 → (Lit.int .i64 (S j)).wf = true) :
    Calls Try.prog 16 #[.pointer (some ⟨g, 0, none⟩), .slice b4 L4 D4] w fun e w' => e = .returned (.tuple #[]) ∧ RowV w' b2 L2 (fun j => .bool (vAt L4 V F Z0 j)) ∧ RowV w' b3 L3 (fun j => .int .i64 (sAt L4 S F j)) ∧
      w'.cell? ⟨g, 0, none⟩ = some (.int .i32 sp) ∧ w'.cell? ⟨g, 1, none⟩ = some (.slice a0 L1 C0) ∧ Row w' a0 L1 Z0 ∧ Below s0 w w' := by
  have zero : L4 = 0 → Calls Try.prog 16 #[.pointer (some ⟨g, 0, none⟩), .slice b4 L4 D4] w fun e w' => e = .returned (.tuple #[]) ∧ RowV w' b2 L2 (fun j => .bool (vAt L4 V F Z0 j)) ∧ RowV w' b3 L3 (fun j => .int .i64 (sAt L4 S F j)) ∧
      w'.cell? ⟨g, 0, none⟩ = some (.int .i32 sp) ∧ w'.cell? ⟨g, 1, none⟩ = some (.slice a0 L1 C0) ∧ Row w' a0 L1 Z0 ∧ Below s0 w w' := by
    intro h0
    subst h0
    refine (zzrefine_zero ⟨g, 0, none⟩ b4 D4 w (fun h => (hn4 h).2)).mono ?_
    rintro e w' ⟨rfl, hb⟩
    exact ⟨rfl, (hv.rowV.below hb).congr (fun j _ => by simp [vAt]), (hs.rowV.below hb).congr (fun j _ => by simp [sAt]), (hb.cell (p := ⟨g, 0, none⟩) hgl).trans c0, (hb.cell (p := ⟨g, 1, none⟩) hgl).trans c1, hr0.row.below hb, hb.mono (by omega)⟩
  rcases hv with ⟨_, h0⟩ | ⟨bv, rfl, hbv, rv⟩
  · exact zero (by omega)
  rcases hs with ⟨_, h0⟩ | ⟨bs, rfl, hbs, rs⟩
  · exact zero (by omega)
  have hv1 := hvl bv rfl
  have hs1 := hsl bs rfl
  have G : Gen w g sp a0 L1 C0 Z0 bv L2 D2 bs L3 D3 V S := {
    c0 := c0, c1 := c1, c2 := c2, c3 := c3, nil0 := hn0
    row0 := by
      rcases hr0 with h | ⟨b, t, ha, hB, hr⟩
      · exact .inl h
      · exact .inr ⟨b, 0, ha, hr.lt, by omega, by omega, fun j hj => by rw [Nat.zero_add]; exact hr.cell hj⟩
    rv := rv, rs := rs, hg := hgl, gv := by omega, gs := by omega, vs := by omega, wf := wS }
  refine (zzrefine_any g sp a0 L1 C0 Z0 bv L2 D2 bs L3 D3 V S b4 L4 D4 F w G h4 g1 g2 g3 h1 hn4 hr4 wF).mono ?_
  rintro e w' ⟨rfl, G', hk⟩
  exact ⟨rfl, .inr ⟨bv, 0, rfl, G'.rv.lt, fun j hj => by rw [Nat.zero_add]; exact G'.rv.cell hj⟩, .inr ⟨bs, 0, rfl, G'.rs.lt, fun j hj => by rw [Nat.zero_add]; exact G'.rs.cell hj⟩, G'.c0, G'.c1, G'.row, hk.below (by omega) (fun x hx => by omega)⟩

end Go.Proofs.Qxb6604010a
