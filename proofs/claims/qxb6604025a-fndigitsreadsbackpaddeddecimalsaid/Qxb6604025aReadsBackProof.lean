/-
  THE PROOF OF 'Rows.FnDigitsReadsBackPaddedDecimalSaid', over the guide's shell for that function.
-/
import Derived.Test.Qxb6604025aRows
import Derived.Test.Qxb6604025aBase
import Derived.WalkKit
import Derived.ProofKit
import Derived.OpenShut
import Derived.ShutString
namespace Go.Proofs.Qxb6604025a.fnDigitsReadsBackPaddedDecimal
open Go.ChangeShapes Go.WideShapes Go.ChangeAt Go.RowKit
open Go.ChangeMaps (open_string shut_string)
set_option linter.unusedVariables false      -- a walk need not use every 'w<i>' (that an integer argument fits its kind)

theorem own : ownKnob Try.prog.godebug = none := by kernel_rfl

/-! ### STEP 1: THE WALK -/
set_option maxHeartbeats 400000 in
theorem walk (a0 : Int) (a1 : Int) (w0 : (Lit.int .u64 a0).wf = true) (w1 : (Lit.int .i64 a1).wf = true) (w : World) :
    Calls Try.prog 4 #[.int .u64 a0, .int .i64 a1] w fun e w' => e = .returned (.bool true) ∧ Below w.heap.size w w' := by
  have hb0 := bounds_u64 w0
  by_cases h1 : a1 < 1
  · go_enter Try.func4, Try.ntmps4
    go_wp2
    go_ret
    exact ⟨rfl, Below.refl _ _⟩
  by_cases h2 : 18 < a1
  · go_enter Try.func4, Try.ntmps4
    go_wp2
    go_ret
    exact ⟨rfl, Below.refl _ _⟩
  obtain ⟨W, rfl⟩ := Int.eq_ofNat_of_zero_le (show 0 ≤ a1 by omega)
  have p1 := pow10_pos W
  have p2 := pow10_18 W (by omega)
  have HP := hide (fun h : a0 < pow10 W => val_pad_all a0 W (by omega) h)
  have PB := hide (fun j => pad_bounds a0 W j)
  by_cases h3 : a0 < pow10 W
  · go_enter Try.func4, Try.ntmps4
    go_wp2_with fail
    refine (pow_any W (by omega) _).mono ?_
    rintro e w1 ⟨rfl, hw⟩
    rw [hw]
    clear hw w1
    go_wp2_with fail
    refine (pad_any a0 W (by omega) (by omega) (by omega) (by omega) _).mono ?_
    rintro e w1 ⟨rfl, hrow, hb⟩
    have R1 := hide hrow
    have B1 := hide hb
    clear hrow hb
    go_wp2_with fail
    refine (zzdigits (some ⟨w.heap.size, 0, none⟩) W W _ _ _ (digits_yes (some ⟨w.heap.size, 0, none⟩) W W (pad a0 W) _ (by omega) (by omega) (fun j _ => PB.out j) (.inr ⟨w.heap.size, 0, rfl, R1.out.lt, fun j hj => by rw [Nat.zero_add]; exact R1.out.cell hj⟩))).mono ?_
    rintro e w2 ⟨rfl, hw⟩
    rw [hw, HP.out h3]
    clear hw w2
    go_wp2
    go_ret
    exact ⟨rfl, B1.out⟩
  · go_enter Try.func4, Try.ntmps4
    go_wp2_with fail
    refine (pow_any W (by omega) _).mono ?_
    rintro e w1 ⟨rfl, hw⟩
    rw [hw]
    clear hw w1
    go_wp2
    go_ret
    exact ⟨rfl, Below.refl _ _⟩

/-! ### THE ROW's STEP: WRITTEN OUT: LEAVE IT -/
set_option maxRecDepth 100000 in
theorem lifted (os : Os) (started : os.Started) (H : Type) (enc : TypeId × Value → H) :
    ReturnsInHanded {} Try.checked os 4 .any (Rows.fnDigitsReadsBackPaddedDecimalSpec.pre6 enc Try.prog Try.f4 Rows.fnDigitsReadsBackPaddedDecimalRow.domain false) (Rows.fnDigitsReadsBackPaddedDecimalSpec.post enc Try.prog Try.f4 false true false false) := by
  refine returnsInHanded_of_change (C := Try.checked) own started (by kernel_rfl) Try.func4
    (ChangeSpec.witness6 (enc := enc) (C := Try.checked) false ⟨#[], #[.int .u64 0, .int .i64 0], []⟩ 8 (by kernel_rfl) (by kernel_rfl) (by kernel_rfl) (by kernel_rfl)) ?_
  intro W base args ds gs before hval0 hW hcnd _
  have hval : ∀ (j : Nat) t v, Try.f4.params[j]? = some t → args[j]? = some v → Value.okWide Try.prog W .any base t v := hval0
  have hW' := hW
  obtain ⟨p, q, hA0, hV, rfl, hfz, hnd⟩ := hW
  have hA : DataW.TrodAll enc Try.prog W 0 (fun _ => true) true Try.f4.params.toList args.toList ds p := hA0
  rw [Try.params4] at hA hval
  obtain ⟨v0, vs0, d0, ds0, p0, q0, hargs, rfl, rfl, h0, r0⟩ := trodAll_cons hA
  obtain ⟨v1, vs1, d1, ds1, p1, q1, rfl, rfl, rfl, h1, r1⟩ := trodAll_cons r0
  obtain ⟨rfl, rfl, rfl⟩ := trodAll_nil r1
  obtain rfl : args = #[v0, v1] := by cases args; simp_all
  obtain ⟨rfl, rfl⟩ := trodVars_none hV
  obtain ⟨a0, rfl, rfl, rfl, w0⟩ := open_int Try.underlying25 (hval 0 25 v0 rfl rfl) h0
  obtain ⟨a1, rfl, rfl, rfl, w1⟩ := open_int Try.underlying3 (hval 1 3 v1 rfl rfl) h1
  clear hA0 hval0
  simp only [List.append_nil] at hW'
  refine (walk a0 a1 w0 w1 W).mono fun e W' ⟨he, hg⟩ => ?_
  subst he
  exact ⟨_, rfl, _, _, _, [], [], [], hW', trodAll_mk1 (shut_bool Try.underlying4 _), (trodAll_cons_mk (shut_int Try.underlying25 w0) (trodAll_cons_mk (shut_int Try.underlying3 w1) trodAll_mk0)), rfl, hg.frame _, fun h => by cases h⟩

theorem over : Rows.fnDigitsReadsBackPaddedDecimalRow.holds Try.pinned (OpenSpec.ofChange Rows.fnDigitsReadsBackPaddedDecimalSpec) :=
  OpenClaim.holds_of_wide 4 Try.f4 rfl rfl rfl rfl rfl rfl rfl ⟨rfl, rfl, rfl, rfl, rfl⟩ rfl rfl rfl rfl rfl (by kernel_rfl) Try.func4 (by kernel_rfl)
    (of_decide_eq_true (by kernel_rfl)) (by unfold Func.isWrapper; first | (rw [if_pos (by decide +kernel)]; kernel_rfl) | (rw [if_neg (by decide +kernel)]; exact ⟨rfl, rfl⟩))
    (fun os started H enc _ => lifted os started H enc)

/-- ████ THE STATEMENT ████ -/
theorem proved : Rows.FnDigitsReadsBackPaddedDecimalSaid :=
  over
#print axioms proved
end Go.Proofs.Qxb6604025a.fnDigitsReadsBackPaddedDecimal
