/-
  THE PROOF OF 'Rows.FnRefineScriptKeepsLeastGeneralizationSaid': the walk (Qxb6604010aScript) lifted to the row.
-/
import Derived.Test.Qxb6604010aRows
import Derived.Test.Qxb6604010aScript
import Derived.WalkKit
import Derived.ProofKit
import Derived.OpenShut
import Derived.ShutString
import Derived.ChangeOld
import Derived.Below
import Derived.Deep.Matrix
namespace Go.Proofs.Qxb6604010a.fnRefineScript
open Go.ChangeShapes Go.WideShapes Go.ChangeAt Go.RowKit

theorem own : ownKnob Try.prog.godebug = none := by kernel_rfl
theorem laidOut : laidOutB Try.prog = true := by kernel_rfl

theorem addr_lit {w : World} {a : Addr} {v : Value} (h : w.cell? a = some v) : ∃ b o, a = ⟨b, o, none⟩ ∧ b < w.heap.size := by
  obtain ⟨b, o, s⟩ := a
  have hb : b < w.heap.size := by
    unfold World.cell? at h
    split at h
    · rename_i hh; exact (Array.getElem?_eq_some_iff.1 hh).1
    · cases h
  cases s with
  | none => exact ⟨b, o, rfl, hb⟩
  | some x =>
    unfold World.cell? at h
    split at h <;> simp at h

/-- A row as it is read. -/
theorem row_of {w : World} {a : Option Addr} {L C : Nat} {Z : List Int} (hL : L ≤ C) (hC : a = none → C = 0) (hc : ∀ a', a = some a' → ∀ c, c < C → w.cell? (a'.add c) = some (.int .i32 (Z.getD c 0))) : Row w a L (fun j => Z.getD j 0) := by
  by_cases h0 : L = 0
  · exact .inl h0
  cases a with
  | none => have := hC rfl; omega
  | some x =>
    have h1 := hc x rfl
    have e0 : x.add 0 = x := by simp [Addr.add]
    obtain ⟨b, o, rfl, hb⟩ := addr_lit (by have := h1 0 (by omega); rw [e0] at this; exact this)
    exact .inr ⟨b, o, rfl, hb, fun j hj => by have := h1 j (by omega); rw [Addr.add_lit] at this; exact this⟩

/-! ### THE WALK, at what the reader gives -/
theorem walk (a : Option Addr) (len cap : Nat) (w : World)
    (h : (a = none ∧ len = 0 ∧ cap = 0) ∨ ∃ (x : Addr) (A : Nat → Option Addr) (L C : Nat → Nat) (Z : Nat → List Int), a = some x ∧ len ≤ cap ∧
      ∀ r, r < cap → w.cell? (x.add r) = some (.slice (A r) (L r) (C r)) ∧ L r ≤ C r ∧ C r ≤ maxLen ∧ (Z r).length = C r ∧ (∀ n ∈ Z r, (Lit.int .i32 n).wf = true) ∧ (A r = none → C r = 0) ∧
        ∀ a', A r = some a' → 0 ≤ a'.block ∧ ∀ c, c < C r → w.cell? (a'.add c) = some (.int .i32 ((Z r).getD c 0))) :
    Calls Try.prog 5 #[.slice a len cap] w fun e w' => e = .returned (.bool true) ∧ Below w.heap.size w w' := by
  rcases h with ⟨rfl, rfl, rfl⟩ | ⟨x, A, L, C, Z, rfl, hl, hx⟩
  · exact script_zero _ _ _
  by_cases h0 : len = 0
  · subst h0
    exact script_zero _ _ _
  have e0 : x.add 0 = x := by simp [Addr.add]
  obtain ⟨b, o, rfl, hb⟩ := addr_lit (by have := (hx 0 (by omega)).1; rw [e0] at this; exact this)
  refine script_pos b o len cap A L C (fun r j => (Z r).getD j 0) w (by omega) hl ⟨hb, fun r hr => ?_⟩ (fun r hr hn => ?_) (fun r hr j hj => ?_)
  · obtain ⟨h1, h2, _, _, _, h6, h7⟩ := hx r (by omega)
    rw [Addr.add_lit] at h1
    exact ⟨h1, row_of h2 h6 (fun a' ha' => (h7 a' ha').2)⟩
  · obtain ⟨_, h2, _, _, _, h6, _⟩ := hx r (by omega)
    have := h6 hn
    omega
  · obtain ⟨_, h2, _, h4, h5, _, _⟩ := hx r (by omega)
    have hj' : j < (Z r).length := by omega
    show (Lit.int .i32 ((Z r).getD j 0)).wf = true
    have e : (Z r).getD j 0 = (Z r)[j] := by simp [List.getD, hj']
    rw [e]
    exact h5 _ (List.getElem_mem hj')

/-! ### THE ROW's STEP -/
set_option maxRecDepth 100000 in
theorem lifted (os : Os) (started : os.Started) (H : Type) (enc : TypeId × Value → H) :
    ReturnsInHanded {} Try.checked os 5 .any (Rows.fnRefineScriptKeepsLeastGeneralizationSpec.pre6 enc Try.prog Try.f5 Rows.fnRefineScriptKeepsLeastGeneralizationRow.domain false) (Rows.fnRefineScriptKeepsLeastGeneralizationSpec.post enc Try.prog Try.f5 false true false false) := by
  refine returnsInHanded_of_change (C := Try.checked) own started (by kernel_rfl) Try.func5
    (ChangeSpec.witness6 (enc := enc) (C := Try.checked) false ⟨#[], #[.slice none 0 0], []⟩ 8 (by kernel_rfl) (by kernel_rfl) (by kernel_rfl) (by kernel_rfl)) ?_
  intro W base args ds gs before hval0 hW hcnd _
  have hval : ∀ (j : Nat) t v, Try.f5.params[j]? = some t → args[j]? = some v → Value.okWide Try.prog W .any base t v := hval0
  have hW' := hW
  obtain ⟨p, q, hA0, hV, rfl, hfz, hnd⟩ := hW
  have hA : DataW.TrodAll enc Try.prog W 0 (fun _ => true) true Try.f5.params.toList args.toList ds p := hA0
  rw [Try.params5] at hA hval
  obtain ⟨v0, vs0, d0, ds0, p0, q0, hargs, rfl, rfl, h0, r0⟩ := trodAll_cons hA
  obtain ⟨rfl, rfl, rfl⟩ := trodAll_nil r0
  obtain rfl : args = #[v0] := by cases args; simp_all
  obtain ⟨rfl, rfl⟩ := trodVars_none hV
  obtain ⟨a0, len0, cap0, rfl⟩ := okWide_slice Try.underlying39 (hval 0 39 v0 rfl rfl)
  have k0 := h0
  have lt0 : ∀ x ∈ p0, x.block < W.heap.size := by obtain ⟨m, hm⟩ := k0; exact DataW.trod_lt m _ _ _ hm
  have w0 : (a0 = none ∧ len0 = 0 ∧ cap0 = 0) ∨ ∃ (x : Addr) (A : Nat → Option Addr) (L C : Nat → Nat) (Z : Nat → List Int), a0 = some x ∧ len0 ≤ cap0 ∧
      ∀ r, r < cap0 → W.cell? (x.add r) = some (.slice (A r) (L r) (C r)) ∧ L r ≤ C r ∧ C r ≤ maxLen ∧ (Z r).length = C r ∧ (∀ n ∈ Z r, (Lit.int .i32 n).wf = true) ∧ (A r = none → C r = 0) ∧
        ∀ a', A r = some a' → 0 ≤ a'.block ∧ ∀ c, c < C r → W.cell? (a'.add c) = some (.int .i32 ((Z r).getD c 0)) := by
    obtain ⟨fuel, hf⟩ := h0
    rcases Deep.open_int_rows Try.underlying39 Try.underlying27 Try.underlying21 (by kernel_rfl) (by kernel_rfl) hf with ⟨hcs, _⟩ | ⟨x, l, c, A, L, C, Z, hcs, _, hl, _, _, hx⟩
    · simp [Value.cells] at hcs
      obtain ⟨rfl, rfl, rfl⟩ := hcs
      exact .inl ⟨rfl, rfl, rfl⟩
    · simp [Value.cells] at hcs
      obtain ⟨rfl, rfl, rfl⟩ := hcs
      exact .inr ⟨_, A, L, C, Z, rfl, hl, hx⟩
  clear hA0 hval0
  refine (walk a0 len0 cap0 W w0).mono fun e W' ⟨he, bel⟩ => ?_
  subst he
  exact ⟨_, rfl, _, _, _, [], _, [], hW', trodAll_mk1 (shut_bool Try.underlying4 _), (trodAll_cons_mk (Below.trod laidOut (by kernel_rfl) (of_decide_eq_true (by kernel_rfl)) k0 bel lt0) trodAll_mk0), rfl, bel.frame _, fun h => by cases h⟩

theorem over : Rows.fnRefineScriptKeepsLeastGeneralizationRow.holds Try.pinned (OpenSpec.ofChange Rows.fnRefineScriptKeepsLeastGeneralizationSpec) :=
  OpenClaim.holds_of_wide 5 Try.f5 rfl rfl rfl rfl rfl rfl rfl ⟨rfl, rfl, rfl, rfl, rfl⟩ rfl rfl rfl rfl rfl (by kernel_rfl) Try.func5 (by kernel_rfl)
    (of_decide_eq_true (by kernel_rfl)) (by unfold Func.isWrapper; first | (rw [if_pos (by decide +kernel)]; kernel_rfl) | (rw [if_neg (by decide +kernel)]; exact ⟨rfl, rfl⟩))
    (fun os started H enc _ => lifted os started H enc)

/-- THE STATEMENT -/
theorem proved : Rows.FnRefineScriptKeepsLeastGeneralizationSaid := over
#print axioms proved
end Go.Proofs.Qxb6604010a.fnRefineScript
