import Derived.Test.Qxb6604010aRows
import Derived.Test.Qxb6604010aPlain
import Derived.WalkKit
import Derived.WalkSpells
import Derived.WalkLawsBesides
import Derived.Deep.OwnRows
import Derived.Deep.QuietTactic
import Derived.BigQuiet
namespace Go.Proofs.Qxb6604010a
open Go.RowKit

theorem info48 : (Try.prog.info? 48).map (fun i => (i.zero, i.size, i.bytes)) = some (some (.int .i32 0), 1, 4) := by kernel_rfl
theorem info21 : (Try.prog.info? 21).map (fun i => (i.zero, i.size, i.bytes)) = some (some (.int .i32 0), 1, 4) := by kernel_rfl
theorem info3 : (Try.prog.info? 3).map (fun i => (i.zero, i.size, i.bytes)) = some (some (.int .i64 0), 1, 8) := by kernel_rfl
theorem info4 : (Try.prog.info? 4).map (fun i => (i.zero, i.size, i.bytes)) = some (some (.bool false), 1, 1) := by kernel_rfl

/-- A slice of int32s that is read: nothing is asked of an empty one. -/
def Row (w : World) (a : Option Addr) (L : Nat) (Z : Nat → Int) : Prop :=
  L = 0 ∨ ∃ b o, a = some ⟨b, o, none⟩ ∧ b < w.heap.size ∧ ∀ j, j < L → w.cell? ⟨b, o + j, none⟩ = some (.int .i32 (Z j))

/-- A row that lies in new memory (from block B on). -/
def NewRow (B : Nat) (w : World) (a : Option Addr) (L : Nat) (Z : Nat → Int) : Prop :=
  L = 0 ∨ ∃ b t, a = some ⟨b, 0, none⟩ ∧ B ≤ b ∧ w.rowIs b t L (fun j => .int .i32 (Z j))

set_option maxHeartbeats 400000 in
theorem atom_nil (w : World) :
    Calls Try.prog 28 #[.slice none 0 0] w fun e w' => e = .returned (.slice none 0 0) ∧ w' = w := by
  have hn := fun w => Lib.run_eql_slice_nil (P := Try.prog) w 27 21 none 0 0 0 0 Try.underlying27
  go_enter Try.func28, Try.ntmps28
  go_wp2
  go_ret
  exact ⟨rfl, rfl⟩


set_option maxHeartbeats 400000 in
theorem atom_some (x : Addr) (L C : Nat) (Z : Nat → Int) (w : World) (hL : L ≤ 1048576) (hr : Row w (some x) L Z) :
    Calls Try.prog 28 #[.slice (some x) L C] w fun e w' => e = .returned (.slice (some ⟨w.heap.size, 0, none⟩) L L) ∧ w'.rowIs w.heap.size 48 L (fun j => .int .i32 (Z j)) ∧ Below w.heap.size w w' ∧ w'.heap.size = w.heap.size + 1 := by
  have hn := fun w => Lib.run_eql_slice_nil (P := Try.prog) w 27 21 (some x) L C 0 0 Try.underlying27
  have hmk := run_make_row' (P := Try.prog) 50 48 (.int .i32 0) 4 Try.underlying50 info48 rfl .i64 .i64 L (by omega) (by omega)
  have hrow0 : ∀ w : World, (w.alloc (.cells (madeCells #[.int .i32 0] L) 48)).rowIs w.heap.size 48 L (fun _ => .int .i32 0) := fun w => World.rowIs_made w _ _ _
  go_enter Try.func28, Try.ntmps28
  go_wp2
  go_loopw [4] (fun i wr => ∃ k : Nat, k ≤ L ∧ i = .int .i64 k ∧ wr.rowIs w.heap.size 48 L (fun j => if j < k then .int .i32 (Z j) else .int .i32 0) ∧ Below w.heap.size w wr ∧ wr.heap.size = w.heap.size + 1) (fun i _ => L - (intOf i).toNat)
  case atStart => exact ⟨0, Nat.zero_le _, rfl, (hrow0 w).congr (by simp), (Below.refl _ _).alloc (Nat.le_refl _) _, by simp⟩
  case round =>
    obtain ⟨k, hk, rfl, hrow, hb, hs⟩ := hrel
    by_cases hlt : k < L
    · rcases hr with rfl | ⟨b, o, hx, hlb, hc⟩
      · omega
      · cases hx
        have hck := (hb.cell (p := ⟨b, o + k, none⟩) hlb).trans (hc k hlt)
        have hfr := hrow.frozen k
        have hcw := hrow.cell hlt
        go_wp2
        go_roundw
        case rel =>
          refine ⟨k + 1, by omega, by go_num, (hrow.set k _).congr (fun j hj => ?_), hb.setCell (by simp) _, by simp [hs]⟩
          by_cases e : j = k
          · subst e; simp
          · by_cases h2 : j < k
            · simp [e, h2, show j < k + 1 by omega]
            · simp [e, h2, show ¬ j < k + 1 by omega]
        case measure => simp [intOf]; omega
    · go_wp2
      go_ret
      have : k = L := by omega
      subst this
      exact ⟨rfl, hrow.congr (fun i hi => by simp [hi]), hb, hs⟩


/-- zzAtomOf: a new row of the same numbers. -/
theorem atom_any (a : Option Addr) (L C : Nat) (Z : Nat → Int) (w : World) (hL : L ≤ 1048576) (hn : a = none → L = 0 ∧ C = 0) (hr : Row w a L Z) :
    Calls Try.prog 28 #[.slice a L C] w fun e w' => ∃ a' C', e = .returned (.slice a' L C') ∧ (a' = none → L = 0 ∧ C' = 0) ∧ NewRow w.heap.size w' a' L Z ∧ Below w.heap.size w w' := by
  cases a with
  | none =>
    obtain ⟨rfl, rfl⟩ := hn rfl
    refine (atom_nil w).mono ?_
    rintro e w' ⟨rfl, rfl⟩
    exact ⟨_, _, rfl, fun _ => ⟨rfl, rfl⟩, .inl rfl, Below.refl _ _⟩
  | some x =>
    refine (atom_some x L C Z w hL hr).mono ?_
    rintro e w' ⟨rfl, h1, h2, _⟩
    exact ⟨_, _, rfl, by simp, .inr ⟨_, _, rfl, Nat.le_refl _, h1⟩, h2⟩

set_option maxHeartbeats 400000 in
theorem ints_nil (w : World) :
    Calls Try.prog 30 #[.slice none 0 0] w fun e w' => e = .returned (.slice none 0 0) ∧ w' = w := by
  have hn := fun w => Lib.run_eql_slice_nil (P := Try.prog) w 50 48 none 0 0 0 0 Try.underlying50
  go_enter Try.func30, Try.ntmps30
  go_wp2
  go_ret
  exact ⟨rfl, rfl⟩


set_option maxHeartbeats 400000 in
theorem ints_some (x : Addr) (L C : Nat) (Z : Nat → Int) (w : World) (hL : L ≤ 1048576) (hr : Row w (some x) L Z) :
    Calls Try.prog 30 #[.slice (some x) L C] w fun e w' => e = .returned (.slice (some ⟨w.heap.size, 0, none⟩) L L) ∧ w'.rowIs w.heap.size 21 L (fun j => .int .i32 (Z j)) ∧ Below w.heap.size w w' ∧ w'.heap.size = w.heap.size + 1 := by
  have hn := fun w => Lib.run_eql_slice_nil (P := Try.prog) w 50 48 (some x) L C 0 0 Try.underlying50
  have hmk := run_make_row' (P := Try.prog) 27 21 (.int .i32 0) 4 Try.underlying27 info21 rfl .i64 .i64 L (by omega) (by omega)
  have hrow0 : ∀ w : World, (w.alloc (.cells (madeCells #[.int .i32 0] L) 21)).rowIs w.heap.size 21 L (fun _ => .int .i32 0) := fun w => World.rowIs_made w _ _ _
  go_enter Try.func30, Try.ntmps30
  go_wp2
  go_loopw [4] (fun i wr => ∃ k : Nat, k ≤ L ∧ i = .int .i64 k ∧ wr.rowIs w.heap.size 21 L (fun j => if j < k then .int .i32 (Z j) else .int .i32 0) ∧ Below w.heap.size w wr ∧ wr.heap.size = w.heap.size + 1) (fun i _ => L - (intOf i).toNat)
  case atStart => exact ⟨0, Nat.zero_le _, rfl, (hrow0 w).congr (by simp), (Below.refl _ _).alloc (Nat.le_refl _) _, by simp⟩
  case round =>
    obtain ⟨k, hk, rfl, hrow, hb, hs⟩ := hrel
    by_cases hlt : k < L
    · rcases hr with rfl | ⟨b, o, hx, hlb, hc⟩
      · omega
      · cases hx
        have hck := (hb.cell (p := ⟨b, o + k, none⟩) hlb).trans (hc k hlt)
        have hfr := hrow.frozen k
        have hcw := hrow.cell hlt
        go_wp2
        go_roundw
        case rel =>
          refine ⟨k + 1, by omega, by go_num, (hrow.set k _).congr (fun j hj => ?_), hb.setCell (by simp) _, by simp [hs]⟩
          by_cases e : j = k
          · subst e; simp
          · by_cases h2 : j < k
            · simp [e, h2, show j < k + 1 by omega]
            · simp [e, h2, show ¬ j < k + 1 by omega]
        case measure => simp [intOf]; omega
    · go_wp2
      go_ret
      have : k = L := by omega
      subst this
      exact ⟨rfl, hrow.congr (fun i hi => by simp [hi]), hb, hs⟩


/-- zzInt32sOf: a new row of the same numbers. -/
theorem ints_any (a : Option Addr) (L C : Nat) (Z : Nat → Int) (w : World) (hL : L ≤ 1048576) (hn : a = none → L = 0 ∧ C = 0) (hr : Row w a L Z) :
    Calls Try.prog 30 #[.slice a L C] w fun e w' => ∃ a' C', e = .returned (.slice a' L C') ∧ (a' = none → L = 0 ∧ C' = 0) ∧ NewRow w.heap.size w' a' L Z ∧ Below w.heap.size w w' := by
  cases a with
  | none =>
    obtain ⟨rfl, rfl⟩ := hn rfl
    refine (ints_nil w).mono ?_
    rintro e w' ⟨rfl, rfl⟩
    exact ⟨_, _, rfl, fun _ => ⟨rfl, rfl⟩, .inl rfl, Below.refl _ _⟩
  | some x =>
    refine (ints_some x L C Z w hL hr).mono ?_
    rintro e w' ⟨rfl, h1, h2, _⟩
    exact ⟨_, _, rfl, by simp, .inr ⟨_, _, rfl, Nat.le_refl _, h1⟩, h2⟩

end Go.Proofs.Qxb6604010a
