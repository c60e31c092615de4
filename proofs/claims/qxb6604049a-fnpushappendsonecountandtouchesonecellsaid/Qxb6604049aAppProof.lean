/-
  THE PROOF OF 'Rows.FnPushAppendsOneCountAndTouchesOneCellSaid': the walk (Qxb6604049aLaw) lifted to the row.
-/
import Derived.Test.Qxb6604049aLaw
import Derived.WalkKit
import Derived.ProofKit
import Derived.OpenShut
import Derived.ShutString
import Derived.ChangeOld
import Derived.Below
import Derived.Deep.Matrix
namespace Go.Proofs.Qxb6604049a.fnPushAppendsOneCountAndTouchesOneCell
open Go.ChangeShapes Go.WideShapes Go.ChangeAt Go.RowKit

theorem own : ownKnob Try.prog.godebug = none := by kernel_rfl
theorem laidOut : laidOutB Try.prog = true := by kernel_rfl

theorem addr_lit {w : World} {a : Addr} {v : Value} (h : w.cell? a = some v) : ∃ b o, a = ⟨b, o, none⟩ ∧ b < w.heap.size := by
  obtain ⟨b, o, s⟩ := a
  have hb : b < w.heap.size := by
    unfold World.cell? at h
    split at h
    · rename_i hh; exact (Array.getElem?_eq_some_iff.1 hh).1
    · cases h
  cases s with
  | none => exact ⟨b, o, rfl, hb⟩
  | some x =>
    unfold World.cell? at h
    split at h <;> simp at h

/-- The array that came in by value. -/
theorem open_arr {H : Type} {enc : TypeId × Value → H} {W : World} {b0 base : Nat} {spare : Nat → Bool} {held : Bool} {v : Value} {d : DataW H} {ps : List MemPlace} (hval : Value.okWide Try.prog W .any b0 23 v) (hd : DataW.Trod enc Try.prog W base spare held 23 v d ps) :
    ∃ e0 : Nat → Int, v = .agg (first32 e0).toArray ∧ ∀ j, j < 32 → 0 ≤ e0 j ∧ e0 j ≤ 65535 := by
  obtain ⟨cs, rfl⟩ : ∃ cs, v = .agg cs := by
    simp only [Value.okWide, Try.underlying23] at hval
    obtain ⟨cs, h1, _⟩ := hval
    exact ⟨cs, h1⟩
  obtain ⟨fuel, hf⟩ := hd
  obtain ⟨xs, m, _, _, hl, hn, hx⟩ := DataW.trod_array Try.underlying23 hf
  have hc22 : Try.prog.cellsOf 22 = 1 := by kernel_rfl
  have hc23 : Try.prog.cellsOf 23 = 32 := by kernel_rfl
  rw [hc23] at hl
  rw [hc22] at hx
  have hcs : (Value.agg cs).cells.toList = cs.toList := rfl
  rw [hcs] at hl hx
  have hg : ∀ i, i < 32 → ∃ n, cs.toList[i]? = some (.int .u16 n) ∧ 0 ≤ n ∧ n ≤ 65535 := fun i hi => by
    have h := hx i hi
    rw [List.getElem?_eq_getElem (by omega)] at h
    obtain ⟨n, h1, _, h3⟩ := DataW.trod_int Try.underlying22 h
    refine ⟨n, ?_, bounds_u16 h3⟩
    have h4 : ((cs.toList.drop (i * 1)).take 1)[0]? = some (.int .u16 n) := by rw [h1]; rfl
    rw [List.getElem?_take_of_lt (by omega), List.getElem?_drop] at h4
    simpa using h4
  refine ⟨fun i => match cs.toList[i]? with | some (.int .u16 n) => n | _ => 0, ?_, fun j hj => ?_⟩
  · congr 1
    refine Array.ext' ?_
    refine List.ext_getElem? (fun i => ?_)
    rcases Nat.lt_or_ge i 32 with hi | hi
    · obtain ⟨n, h1, _⟩ := hg i hi
      rw [h1, List.toList_toArray, first32_get _ i hi, h1]
    · rw [List.getElem?_eq_none (by omega), List.getElem?_eq_none (by rw [List.toList_toArray, first32_length]; exact hi)]
  · obtain ⟨n, h1, h2⟩ := hg j hj
    simp only [h1]
    exact h2

/-- The chunks as they came in. -/
theorem chIn_of {W : World} {a : Option Addr} {len cap : Nat}
    (h : (a = none ∧ len = 0 ∧ cap = 0) ∨ ∃ (x : Addr) (A : Nat → Option Addr) (L C : Nat → Nat) (Z : Nat → List Int), a = some x ∧ len ≤ cap ∧
      ∀ r, r < cap → W.cell? (x.add r) = some (.slice (A r) (L r) (C r)) ∧ L r ≤ C r ∧ C r ≤ maxLen ∧ (Z r).length = C r ∧ (∀ n ∈ Z r, (Lit.int .u16 n).wf = true) ∧ (A r = none → C r = 0) ∧
        ∀ a', A r = some a' → 0 ≤ a'.block ∧ ∀ c, c < C r → W.cell? (a'.add c) = some (.int .u16 ((Z r).getD c 0))) :
    (a = none → len = 0 ∧ cap = 0) ∧ ∃ A L C F, ChIn W a len A L C F ∧ ∀ i, i < len → ∀ j, j < L i → 0 ≤ F i j ∧ F i j ≤ 65535 := by
  rcases h with ⟨rfl, rfl, rfl⟩ | ⟨x, A, L, C, Z, rfl, hl, hx⟩
  · exact ⟨fun _ => ⟨rfl, rfl⟩, fun _ => none, fun _ => 0, fun _ => 0, fun _ _ => 0, .inl rfl, fun _ h => absurd h (by omega)⟩
  · refine ⟨(fun h => by cases h), A, L, C, fun r j => (Z r).getD j 0, ?_, fun r hr j hj => ?_⟩
    · by_cases h0 : len = 0
      · exact .inl h0
      have e0 : x.add 0 = x := by simp [Addr.add]
      obtain ⟨b, o, rfl, hb⟩ := addr_lit (by have := (hx 0 (by omega)).1; rw [e0] at this; exact this)
      refine .inr ⟨b, o, rfl, hb, fun r hr => ?_⟩
      obtain ⟨h1, h2, _, _, _, h6, h7⟩ := hx r (by omega)
      rw [Addr.add_lit] at h1
      refine ⟨h1, ?_⟩
      by_cases hL : L r = 0
      · exact .inl hL
      · cases hA : A r with
        | none => have := h6 hA; omega
        | some y =>
          have h8 := (h7 y hA).2
          have e1 : y.add 0 = y := by simp [Addr.add]
          obtain ⟨bi, oi, rfl, hbi⟩ := addr_lit (by have := h8 0 (by omega); rw [e1] at this; exact this)
          exact .inr ⟨bi, oi, rfl, hbi, fun j hj => by have := h8 j (by omega); rw [Addr.add_lit] at this; exact this⟩
    · obtain ⟨_, h2, _, h4, h5, _, _⟩ := hx r (by omega)
      have hj' : j < (Z r).length := by omega
      have e : (Z r).getD j 0 = (Z r)[j] := by simp [List.getD, hj']
      simp only [e]
      exact bounds_u16 (h5 _ (List.getElem_mem hj'))

/-! ### THE ROW's STEP -/
set_option maxRecDepth 100000 in
theorem lifted (os : Os) (started : os.Started) (H : Type) (enc : TypeId × Value → H) :
    ReturnsInHanded {} Try.checked os 3 .any (Rows.fnPushAppendsOneCountAndTouchesOneCellSpec.pre6 enc Try.prog Try.f3 Rows.fnPushAppendsOneCountAndTouchesOneCellRow.domain false) (Rows.fnPushAppendsOneCountAndTouchesOneCellSpec.post enc Try.prog Try.f3 false true false false) := by
  refine returnsInHanded_of_change (C := Try.checked) own started (by kernel_rfl) Try.func3
    (ChangeSpec.witness6 (enc := enc) (C := Try.checked) false ⟨#[], #[.int .i64 0, .int .i64 0, .agg #[.int .u16 0, .int .u16 0, .int .u16 0, .int .u16 0, .int .u16 0, .int .u16 0, .int .u16 0, .int .u16 0, .int .u16 0, .int .u16 0, .int .u16 0, .int .u16 0, .int .u16 0, .int .u16 0, .int .u16 0, .int .u16 0, .int .u16 0, .int .u16 0, .int .u16 0, .int .u16 0, .int .u16 0, .int .u16 0, .int .u16 0, .int .u16 0, .int .u16 0, .int .u16 0, .int .u16 0, .int .u16 0, .int .u16 0, .int .u16 0, .int .u16 0, .int .u16 0], .slice none 0 0, .int .i64 0], []⟩ 8 (by kernel_rfl) (by kernel_rfl) (by kernel_rfl) (by kernel_rfl)) ?_
  intro W base args ds gs before hval0 hW hcnd _
  have hval : ∀ (j : Nat) t v, Try.f3.params[j]? = some t → args[j]? = some v → Value.okWide Try.prog W .any base t v := hval0
  have hW' := hW
  obtain ⟨p, q, hA0, hV, rfl, hfz, hnd⟩ := hW
  have hA : DataW.TrodAll enc Try.prog W 0 (fun _ => true) true Try.f3.params.toList args.toList ds p := hA0
  rw [Try.params3] at hA hval
  obtain ⟨v0, vs0, d0, ds0, p0, q0, hargs, rfl, rfl, h0, r0⟩ := trodAll_cons hA
  obtain ⟨v1, vs1, d1, ds1, p1, q1, rfl, rfl, rfl, h1, r1⟩ := trodAll_cons r0
  obtain ⟨v2, vs2, d2, ds2, p2, q2, rfl, rfl, rfl, h2, r2⟩ := trodAll_cons r1
  obtain ⟨v3, vs3, d3, ds3, p3, q3, rfl, rfl, rfl, h3, r3⟩ := trodAll_cons r2
  obtain ⟨v4, vs4, d4, ds4, p4, q4, rfl, rfl, rfl, h4, r4⟩ := trodAll_cons r3
  obtain ⟨rfl, rfl, rfl⟩ := trodAll_nil r4
  obtain rfl : args = #[v0, v1, v2, v3, v4] := by cases args; simp_all
  obtain ⟨rfl, rfl⟩ := trodVars_none hV
  obtain ⟨a0, rfl⟩ := okWide_int Try.underlying3 (hval 0 3 v0 rfl rfl)
  obtain ⟨a1, rfl⟩ := okWide_int Try.underlying3 (hval 1 3 v1 rfl rfl)
  obtain ⟨e0, rfl, he0⟩ := open_arr (hval 2 23 v2 rfl rfl) h2
  obtain ⟨a3, len3, cap3, rfl⟩ := okWide_slice Try.underlying24 (hval 3 24 v3 rfl rfl)
  obtain ⟨a4, rfl⟩ := okWide_int Try.underlying3 (hval 4 3 v4 rfl rfl)
  have lt0 : ∀ x ∈ p0, x.block < W.heap.size := by obtain ⟨m, hm⟩ := h0; exact DataW.trod_lt m _ _ _ hm
  have lt1 : ∀ x ∈ p1, x.block < W.heap.size := by obtain ⟨m, hm⟩ := h1; exact DataW.trod_lt m _ _ _ hm
  have lt2 : ∀ x ∈ p2, x.block < W.heap.size := by obtain ⟨m, hm⟩ := h2; exact DataW.trod_lt m _ _ _ hm
  have lt3 : ∀ x ∈ p3, x.block < W.heap.size := by obtain ⟨m, hm⟩ := h3; exact DataW.trod_lt m _ _ _ hm
  have lt4 : ∀ x ∈ p4, x.block < W.heap.size := by obtain ⟨m, hm⟩ := h4; exact DataW.trod_lt m _ _ _ hm
  have w3 : (a3 = none ∧ len3 = 0 ∧ cap3 = 0) ∨ ∃ (x : Addr) (A : Nat → Option Addr) (L C : Nat → Nat) (Z : Nat → List Int), a3 = some x ∧ len3 ≤ cap3 ∧
      ∀ r, r < cap3 → W.cell? (x.add r) = some (.slice (A r) (L r) (C r)) ∧ L r ≤ C r ∧ C r ≤ maxLen ∧ (Z r).length = C r ∧ (∀ n ∈ Z r, (Lit.int .u16 n).wf = true) ∧ (A r = none → C r = 0) ∧
        ∀ a', A r = some a' → 0 ≤ a'.block ∧ ∀ c, c < C r → W.cell? (a'.add c) = some (.int .u16 ((Z r).getD c 0)) := by
    obtain ⟨fuel, hf⟩ := h3
    rcases Deep.open_int_rows Try.underlying24 Try.underlying26 Try.underlying22 (by kernel_rfl) (by kernel_rfl) hf with ⟨hcs, _⟩ | ⟨x, l, c, A, L, C, Z, hcs, _, hl, _, _, hx⟩
    · simp [Value.cells] at hcs
      obtain ⟨rfl, rfl, rfl⟩ := hcs
      exact .inl ⟨rfl, rfl, rfl⟩
    · simp [Value.cells] at hcs
      obtain ⟨rfl, rfl, rfl⟩ := hcs
      exact .inr ⟨_, A, L, C, Z, rfl, hl, hx⟩
  clear hA0 hval0
  obtain ⟨hnil, A, L, C, F, hch, hF⟩ := chIn_of w3
  refine (app_any W a0 a1 a4 e0 a3 len3 cap3 A L C F he0 hF hnil hch).mono fun e W' ⟨he, bel⟩ => ?_
  subst he
  exact ⟨_, rfl, _, _, _, [], _, [], hW', trodAll_mk1 (shut_bool Try.underlying4 _),
    (trodAll_cons_mk (Below.trod laidOut (by kernel_rfl) (of_decide_eq_true (by kernel_rfl)) h0 bel lt0) (trodAll_cons_mk (Below.trod laidOut (by kernel_rfl) (of_decide_eq_true (by kernel_rfl)) h1 bel lt1) (trodAll_cons_mk (Below.trod laidOut (by kernel_rfl) (of_decide_eq_true (by kernel_rfl)) h2 bel lt2) (trodAll_cons_mk (Below.trod laidOut (by kernel_rfl) (of_decide_eq_true (by kernel_rfl)) h3 bel lt3) (trodAll_cons_mk (Below.trod laidOut (by kernel_rfl) (of_decide_eq_true (by kernel_rfl)) h4 bel lt4) trodAll_mk0))))),
    rfl, bel.frame _, fun h => by cases h⟩

theorem over : Rows.fnPushAppendsOneCountAndTouchesOneCellRow.holds Try.pinned (OpenSpec.ofChange Rows.fnPushAppendsOneCountAndTouchesOneCellSpec) :=
  OpenClaim.holds_of_wide 3 Try.f3 rfl rfl rfl rfl rfl rfl rfl ⟨rfl, rfl, rfl, rfl, rfl⟩ rfl rfl rfl rfl rfl (by kernel_rfl) Try.func3 (by kernel_rfl)
    (of_decide_eq_true (by kernel_rfl)) (by unfold Func.isWrapper; first | (rw [if_pos (by decide +kernel)]; kernel_rfl) | (rw [if_neg (by decide +kernel)]; exact ⟨rfl, rfl⟩))
    (fun os started H enc _ => lifted os started H enc)

/-- THE STATEMENT -/
theorem proved : Rows.FnPushAppendsOneCountAndTouchesOneCellSaid := over
#print axioms proved
end Go.Proofs.Qxb6604049a.fnPushAppendsOneCountAndTouchesOneCell
