import Derived.Test.Qxb6604010aReads
import Derived.Maps.OwnSet
import Derived.DeepKeys4
namespace Go.Proofs.Qxb6604010a
open Go.RowKit Go.Maps

theorem laidOut : laidOutB Try.prog = true := by kernel_rfl
theorem row65 : (65 : TypeId) < Try.prog.types.size := of_decide_eq_true (by kernel_rfl)
theorem cells65 : Try.prog.cellsOf 65 = 2 := by kernel_rfl
theorem wide65 : (match Try.prog.underlying 65 with | some (.array _ _) | some (.struct _) => true | _ => false) = true := by rw [Try.underlying65]
theorem lawTie : Keyed Try.prog 65 := Keyed.of_law (deep_law_laid laidOut (m := 2) (by omega) row65 (by kernel_rfl) wide65)
theorem zero3 (w : World) : (zeroValue 3).run Try.prog w = .ok (.int .i64 0) w := by kernel_rfl

/-- What a tie reads as, as a map's key. -/
def tieKey (s t : Int) : Lit := .string (keyBytes [.int .i64 s, .int .i32 t])

theorem key65 : Try.prog.keyType 65 = true := by kernel_rfl
theorem cells3 : Try.prog.cellsOf 3 = 1 := by kernel_rfl
theorem cells48 : Try.prog.cellsOf 48 = 1 := by kernel_rfl
theorem tiesize : Try.prog.types.size = 88 := by kernel_rfl

theorem lits_int (d : Nat) {s : Int} (hs : (Lit.int .i64 s).wf = true) : Try.prog.keyLits (d + 1) 3 [.int .i64 s] = some [.int .i64 s] := by
  simp [Program.keyLits, Try.underlying3, hs]
theorem lits_term (d : Nat) {s : Int} (hs : (Lit.int .i32 s).wf = true) : Try.prog.keyLits (d + 1) 48 [.int .i32 s] = some [.int .i32 s] := by
  simp [Program.keyLits, Try.underlying48, hs]
theorem lits_tie (d : Nat) {s t : Int} (hs : (Lit.int .i64 s).wf = true) (ht : (Lit.int .i32 t).wf = true) : Try.prog.keyLits (d + 2) 65 [.int .i64 s, .int .i32 t] = some [.int .i64 s, .int .i32 t] := by
  unfold Program.keyLits
  rw [Try.underlying65]
  simp [cells65, cells3, cells48, lits_int d hs, lits_term d ht, List.mapM_cons]

theorem keyOf_tie {s t : Int} (hs : (Lit.int .i64 s).wf = true) (ht : (Lit.int .i32 t).wf = true) : keyOf Try.prog 65 (.agg #[.int .i64 s, .int .i32 t]) = some (tieKey s t) := by
  have h := lits_tie 87 hs ht
  have hf : (Value.agg #[.int .i64 s, .int .i32 t]).formed Try.prog 65 = true := by simp [Value.formed, Try.underlying65, cells65]
  unfold keyOf
  rw [Try.underlying65]
  simp only [key65, hf, Bool.and_self, if_true]
  rw [tiesize]
  show Option.map _ (Try.prog.keyLits (87 + 2) 65 [.int .i64 s, .int .i32 t]) = _
  rw [h]
  rfl

theorem tieKey_inj {s t s' t' : Int} (hs : (Lit.int .i64 s).wf = true) (ht : (Lit.int .i32 t).wf = true) (hs' : (Lit.int .i64 s').wf = true) (ht' : (Lit.int .i32 t').wf = true) (h : tieKey s t = tieKey s' t') : s = s' ∧ t = t' := by
  have e := lawTie.inj (keyOf_tie hs ht) (h ▸ keyOf_tie hs' ht')
  simp at e
  exact e

end Go.Proofs.Qxb6604010a
