/-
  THE PROOF OF 'Rows.FnRefineMatchesLeastPlaceModelSaid': the walk (Qxb6604010aModel) lifted to the row.
-/
import Derived.Test.Qxb6604010aRows
import Derived.Test.Qxb6604010aModel
import Derived.WalkKit
import Derived.ProofKit
import Derived.OpenShut
import Derived.ShutString
import Derived.ChangeOld
import Derived.Below
import Derived.Deep.Slices
namespace Go.Proofs.Qxb6604010a.fnRefineModel
open Go.ChangeShapes Go.WideShapes Go.ChangeAt Go.RowKit

theorem own : ownKnob Try.prog.godebug = none := by kernel_rfl
theorem laidOut : laidOutB Try.prog = true := by kernel_rfl

theorem addr_lit {w : World} {a : Addr} {v : Value} (h : w.cell? a = some v) : ∃ b o, a = ⟨b, o, none⟩ ∧ b < w.heap.size := by
  obtain ⟨b, o, s⟩ := a
  have hb : b < w.heap.size := by
    unfold World.cell? at h
    split at h
    · rename_i hh; exact (Array.getElem?_eq_some_iff.1 hh).1
    · cases h
  cases s with
  | none => exact ⟨b, o, rfl, hb⟩
  | some x =>
    unfold World.cell? at h
    split at h <;> simp at h

theorem rowV_of {w : World} {x : Addr} {L : Nat} {G : Nat → Value} (hc : ∀ c, c < L → w.cell? (x.add c) = some (G c)) : RowV w (some x) L G := by
  by_cases h0 : L = 0
  · exact .inl h0
  have e0 : x.add 0 = x := by simp [Addr.add]
  obtain ⟨b, o, rfl, hb⟩ := addr_lit (by have := hc 0 (by omega); rw [e0] at this; exact this)
  exact .inr ⟨b, o, rfl, hb, fun j hj => by have := hc j hj; rw [Addr.add_lit] at this; exact this⟩

section
variable {H : Type} {enc : TypeId × Value → H} {W : World}

theorem open_row_int {t e : TypeId} {k : IntKind} {a : Option Addr} {len cap : Nat} {d : DataW H} {p : List MemPlace} (ht : Try.prog.underlying t = some (.slice e)) (he : Try.prog.underlying e = some (.int k)) (hc : Try.prog.cellsOf e = 1)
    (h : DataW.Trod enc Try.prog W 0 (fun _ => true) true t (.slice a len cap) d p) : (a = none → len = 0 ∧ cap = 0) ∧ ∃ Z : Nat → Int, RowV W a len (fun j => .int k (Z j)) ∧ ∀ j, j < len → (Lit.int k (Z j)).wf = true := by
  obtain ⟨fuel, hf⟩ := h
  rcases open_ints ht he hc hf with ⟨hcs, _⟩ | ⟨x, l, c, zs, hcs, _, hl, hm, hz, _, hcell, hwz⟩
  · simp [Value.cells] at hcs
    obtain ⟨rfl, rfl, rfl⟩ := hcs
    exact ⟨fun _ => ⟨rfl, rfl⟩, fun _ => 0, .inl rfl, fun j hj => absurd hj (Nat.not_lt_zero _)⟩
  · simp [Value.cells] at hcs
    obtain ⟨rfl, rfl, rfl⟩ := hcs
    simp only [if_true] at hz
    refine ⟨fun h => (by cases h), fun j => zs.getD j 0, rowV_of fun c hc => hcell c (by omega), fun j hj => ?_⟩
    have hj' : j < zs.length := by omega
    have e : zs.getD j 0 = zs[j] := by simp [List.getD, hj']
    show (Lit.int k (zs.getD j 0)).wf = true
    rw [e]
    exact hwz _ (List.getElem_mem hj')

theorem open_row_bool {t e : TypeId} {a : Option Addr} {len cap : Nat} {d : DataW H} {p : List MemPlace} (ht : Try.prog.underlying t = some (.slice e)) (he : Try.prog.underlying e = some .bool) (hc : Try.prog.cellsOf e = 1)
    (h : DataW.Trod enc Try.prog W 0 (fun _ => true) true t (.slice a len cap) d p) : (a = none → len = 0 ∧ cap = 0) ∧ ∃ V : Nat → Bool, RowV W a len (fun j => .bool (V j)) := by
  obtain ⟨fuel, hf⟩ := h
  rcases Deep.open_slice1 ht hc hf with ⟨hcs, _⟩ | ⟨x, l, c, m, n, Vv, D, Pl, hcs, _, hl, _, hm, _, hx⟩
  · simp [Value.cells] at hcs
    obtain ⟨rfl, rfl, rfl⟩ := hcs
    exact ⟨fun _ => ⟨rfl, rfl⟩, fun _ => false, .inl rfl⟩
  · simp [Value.cells] at hcs
    obtain ⟨rfl, rfl, rfl⟩ := hcs
    simp only [if_true] at hm
    have each : ∀ i, i < len → ∃ b : Bool, W.cell? (x.add i) = some (.bool b) := by
      intro i hi
      obtain ⟨h1, h2⟩ := hx i (by omega)
      obtain ⟨b, hb, _⟩ := DataW.trod_bool he h2
      simp at hb
      exact ⟨b, by rw [h1, hb]⟩
    obtain ⟨V, hV⟩ := Deep.choose_lt each
    exact ⟨fun h => (by cases h), V, rowV_of hV⟩
end

/-! ### THE ROW's STEP -/
set_option maxRecDepth 100000 in
theorem lifted (os : Os) (started : os.Started) (H : Type) (enc : TypeId × Value → H) :
    ReturnsInHanded {} Try.checked os 4 .any (Rows.fnRefineMatchesLeastPlaceModelSpec.pre6 enc Try.prog Try.f4 Rows.fnRefineMatchesLeastPlaceModelRow.domain false) (Rows.fnRefineMatchesLeastPlaceModelSpec.post enc Try.prog Try.f4 false true false false) := by
  refine returnsInHanded_of_change (C := Try.checked) own started (by kernel_rfl) Try.func4
    (ChangeSpec.witness6 (enc := enc) (C := Try.checked) false ⟨#[], #[.int .i32 0, .slice none 0 0, .slice none 0 0, .slice none 0 0, .slice none 0 0], []⟩ 8 (by kernel_rfl) (by kernel_rfl) (by kernel_rfl) (by kernel_rfl)) ?_
  intro W base args ds gs before hval0 hW hcnd _
  have hval : ∀ (j : Nat) t v, Try.f4.params[j]? = some t → args[j]? = some v → Value.okWide Try.prog W .any base t v := hval0
  have hW' := hW
  obtain ⟨p, q, hA0, hV, rfl, hfz, hnd⟩ := hW
  have hA : DataW.TrodAll enc Try.prog W 0 (fun _ => true) true Try.f4.params.toList args.toList ds p := hA0
  rw [Try.params4] at hA hval
  obtain ⟨v0, vs0, d0, ds0, p0, q0, hargs, rfl, rfl, h0, r0⟩ := trodAll_cons hA
  obtain ⟨v1, vs1, d1, ds1, p1, q1, rfl, rfl, rfl, h1, r1⟩ := trodAll_cons r0
  obtain ⟨v2, vs2, d2, ds2, p2, q2, rfl, rfl, rfl, h2, r2⟩ := trodAll_cons r1
  obtain ⟨v3, vs3, d3, ds3, p3, q3, rfl, rfl, rfl, h3, r3⟩ := trodAll_cons r2
  obtain ⟨v4, vs4, d4, ds4, p4, q4, rfl, rfl, rfl, h4, r4⟩ := trodAll_cons r3
  obtain ⟨rfl, rfl, rfl⟩ := trodAll_nil r4
  obtain rfl : args = #[v0, v1, v2, v3, v4] := by cases args; simp_all
  obtain ⟨rfl, rfl⟩ := trodVars_none hV
  obtain ⟨sp, rfl, rfl, rfl, w0⟩ := open_int Try.underlying21 (hval 0 21 v0 rfl rfl) h0
  obtain ⟨a1, len1, cap1, rfl⟩ := okWide_slice Try.underlying27 (hval 1 27 v1 rfl rfl)
  obtain ⟨a2, len2, cap2, rfl⟩ := okWide_slice Try.underlying28 (hval 2 28 v2 rfl rfl)
  obtain ⟨a3, len3, cap3, rfl⟩ := okWide_slice Try.underlying29 (hval 3 29 v3 rfl rfl)
  obtain ⟨a4, len4, cap4, rfl⟩ := okWide_slice Try.underlying27 (hval 4 27 v4 rfl rfl)
  have lt1 : ∀ x ∈ p1, x.block < W.heap.size := by obtain ⟨m, hm⟩ := h1; exact DataW.trod_lt m _ _ _ hm
  have lt2 : ∀ x ∈ p2, x.block < W.heap.size := by obtain ⟨m, hm⟩ := h2; exact DataW.trod_lt m _ _ _ hm
  have lt3 : ∀ x ∈ p3, x.block < W.heap.size := by obtain ⟨m, hm⟩ := h3; exact DataW.trod_lt m _ _ _ hm
  have lt4 : ∀ x ∈ p4, x.block < W.heap.size := by obtain ⟨m, hm⟩ := h4; exact DataW.trod_lt m _ _ _ hm
  obtain ⟨n1, Z1, e1, _⟩ := open_row_int Try.underlying27 Try.underlying21 (by kernel_rfl) h1
  obtain ⟨n2, V2, e2⟩ := open_row_bool Try.underlying28 Try.underlying4 (by kernel_rfl) h2
  obtain ⟨n3, Z3, e3, wf3⟩ := open_row_int Try.underlying29 Try.underlying3 (by kernel_rfl) h3
  obtain ⟨n4, Z4, e4, wf4⟩ := open_row_int Try.underlying27 Try.underlying21 (by kernel_rfl) h4
  clear hA0 hval0
  have walk : Calls Try.prog 4 #[.int .i32 sp, .slice a1 len1 cap1, .slice a2 len2 cap2, .slice a3 len3 cap3, .slice a4 len4 cap4] W fun e w' => e = .returned (.bool true) ∧ Below W.heap.size W w' := by
    by_cases hc : len1 ≤ 4096 ∧ len2 ≤ 4096 ∧ len3 ≤ 4096 ∧ len4 ≤ 4096 ∧ len4 ≤ len1 ∧ len4 ≤ len2 ∧ len4 ≤ len3
    · obtain ⟨c1, c2, c3, c4, c5, c6, c7⟩ := hc
      exact model_main sp a1 a2 a3 a4 len1 cap1 len2 cap2 len3 cap3 len4 cap4 Z1 Z4 Z3 V2 W n1 n2 n3 n4 e1 e2 e3 e4 wf4 wf3 c1 c2 c3 c4 c5 c6 c7
    · exact model_early sp a1 a2 a3 a4 len1 cap1 len2 cap2 len3 cap3 len4 cap4 W hc
  refine walk.mono fun e W' ⟨he, bel⟩ => ?_
  subst he
  exact ⟨_, rfl, _, _, _, [], _, [], hW', trodAll_mk1 (shut_bool Try.underlying4 _), (trodAll_cons_mk (shut_int Try.underlying21 w0) (trodAll_cons_mk (Below.trod laidOut (by kernel_rfl) (of_decide_eq_true (by kernel_rfl)) h1 bel lt1) (trodAll_cons_mk (Below.trod laidOut (by kernel_rfl) (of_decide_eq_true (by kernel_rfl)) h2 bel lt2) (trodAll_cons_mk (Below.trod laidOut (by kernel_rfl) (of_decide_eq_true (by kernel_rfl)) h3 bel lt3) (trodAll_cons_mk (Below.trod laidOut (by kernel_rfl) (of_decide_eq_true (by kernel_rfl)) h4 bel lt4) trodAll_mk0))))), rfl, bel.frame _, fun h => by cases h⟩

theorem over : Rows.fnRefineMatchesLeastPlaceModelRow.holds Try.pinned (OpenSpec.ofChange Rows.fnRefineMatchesLeastPlaceModelSpec) :=
  OpenClaim.holds_of_wide 4 Try.f4 rfl rfl rfl rfl rfl rfl rfl ⟨rfl, rfl, rfl, rfl, rfl⟩ rfl rfl rfl rfl rfl (by kernel_rfl) Try.func4 (by kernel_rfl)
    (of_decide_eq_true (by kernel_rfl)) (by unfold Func.isWrapper; first | (rw [if_pos (by decide +kernel)]; kernel_rfl) | (rw [if_neg (by decide +kernel)]; exact ⟨rfl, rfl⟩))
    (fun os started H enc _ => lifted os started H enc)

/-- THE STATEMENT -/
theorem proved : Rows.FnRefineMatchesLeastPlaceModelSaid := over
#print axioms proved
end Go.Proofs.Qxb6604010a.fnRefineModel
