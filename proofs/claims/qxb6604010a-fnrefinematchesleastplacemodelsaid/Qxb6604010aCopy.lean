import Derived.Test.Qxb6604010aClones
import Derived.Laws.CopyOwn
import Derived.Deep.DeepCutAuto
namespace Go.Proofs.Qxb6604010a
open Go.RowKit Go.Maps

/-- 'zzc := make([]int32, len(x)); copy(zzc, x)' -/
theorem copy_made (W : World) (x : Addr) (L C : Nat) (Z : Nat → Int) (hr : Row W (some x) L Z) :
    ∃ w', (Builtin.copy_ #[27, 27] 3 #[.slice (some ⟨W.heap.size, 0, none⟩) L L, .slice (some x) L C]).run Try.prog (W.alloc (.cells (madeCells #[.int .i32 0] L) 21)) = .ok (.int .i64 L) w' ∧
      w'.rowIs W.heap.size 21 L (fun j => .int .i32 (Z j)) ∧ Below W.heap.size W w' := by
  have hsz : (Try.prog.info? 21).map (·.size) = some 1 := by kernel_rfl
  rcases hr with rfl | ⟨b, o, hx, hlb, hc⟩
  · have hrun := run_copy_none (P := Try.prog) (W.alloc (.cells (madeCells #[.int .i32 0] 0) 21)) 27 27 3 21 (some ⟨W.heap.size, 0, none⟩) (some x) 0 0 0 C Try.underlying27 hsz rfl
    exact ⟨_, hrun, (World.rowIs_made W _ _ _).congr (fun j hj => absurd hj (Nat.not_lt_zero _)), (Below.refl _ _).alloc (Nat.le_refl _) _⟩
  cases hx
  have hg : (W.alloc (.cells (madeCells #[.int .i32 0] L) 21)).heap[W.heap.size]? = some (.cells (madeCells #[.int .i32 0] L) 21 (0, 0)) := (MapKept.heap_alloc W _).1
  have hrun := run_copy_row Try.prog (W.alloc (.cells (madeCells #[.int .i32 0] L) 21)) 27 27 3 21 W.heap.size 0 L L ⟨b, o, none⟩ L C (madeCells #[.int .i32 0] L) 21 ((List.range L).map fun j => .int .i32 (Z j)) Try.underlying27 hsz hg (by simp)
    (fun j v hj => by
      have hj' : j < L := by have := (List.getElem?_eq_some_iff.1 hj).1; simpa using this
      have hv : v = .int .i32 (Z j) := by simp [hj'] at hj; exact hj.symm
      rw [Addr.add_lit, hv, ← hc j hj']
      exact World.cell?_of_block (w := W) (Below.heap_alloc _ _ _ hlb)) (by simp [size_madeCells]) (fun v hv => by
      obtain ⟨j, _, rfl⟩ := List.mem_map.1 hv
      rfl)
  have e1 : goInt ((List.range L).map fun j => Value.int .i32 (Z j)).length = .int .i64 L := by simp [goInt]
  rw [e1] at hrun
  refine ⟨_, hrun, ⟨_, setRow_heap _ _ _ _ _ _ hg, ?_, fun i hi => ?_⟩, ?_⟩
  · simp [size_madeCells]
  · have e2 : (List.drop L (madeCells #[Value.int .i32 0] L).toList) = [] := List.drop_eq_nil_of_le (by simp [size_madeCells])
    simp [e2, hi]
  · exact below_setRow ((Below.refl _ _).alloc (Nat.le_refl _) _) (Nat.le_refl _) _

set_option maxRecDepth 100000 in
set_option maxHeartbeats 2000000 in
/-- The law outside its domain. -/
theorem model_early (sp : Int) (a1 a2 a3 a4 : Option Addr) (L1 C1 L2 C2 L3 C3 L4 C4 : Nat) (w : World) (hno : ¬ (L1 ≤ 4096 ∧ L2 ≤ 4096 ∧ L3 ≤ 4096 ∧ L4 ≤ 4096 ∧ L4 ≤ L1 ∧ L4 ≤ L2 ∧ L4 ≤ L3)) :
    Calls Try.prog 4 #[.int .i32 sp, .slice a1 L1 C1, .slice a2 L2 C2, .slice a3 L3 C3, .slice a4 L4 C4] w fun e w' => e = .returned (.bool true) ∧ Below w.heap.size w w' := by
  go_enter Try.func4, Try.ntmps4
  go_wp2_with fail
  refine (bytes12_any sp a1 a2 a3 a4 L1 C1 L2 C2 L3 C3 L4 C4 _).mono ?_
  rintro e w1 ⟨⟨r, rfl⟩, hw1⟩
  rw [hw1]
  clear hw1 w1
  cases r
  · clear hno
    go_wp2
    go_ret
    exact ⟨rfl, Below.refl _ _⟩
  rcases Nat.lt_or_ge 4096 L1 with h1 | h1
  · clear hno
    go_wp2
    all_goals
      go_ret
      exact ⟨rfl, Below.refl _ _⟩
  rcases Nat.lt_or_ge 4096 L2 with h2 | h2
  · clear hno
    go_wp2
    all_goals
      go_ret
      exact ⟨rfl, Below.refl _ _⟩
  rcases Nat.lt_or_ge 4096 L3 with h3 | h3
  · clear hno
    go_wp2
    all_goals
      go_ret
      exact ⟨rfl, Below.refl _ _⟩
  rcases Nat.lt_or_ge 4096 L4 with h4 | h4
  · clear hno
    go_wp2
    all_goals
      go_ret
      exact ⟨rfl, Below.refl _ _⟩
  rcases Nat.lt_or_ge L1 L4 with g1 | g1
  · clear hno
    go_wp2
    all_goals
      go_ret
      exact ⟨rfl, Below.refl _ _⟩
  rcases Nat.lt_or_ge L2 L4 with g2 | g2
  · clear hno
    go_wp2
    all_goals
      go_ret
      exact ⟨rfl, Below.refl _ _⟩
  rcases Nat.lt_or_ge L3 L4 with g3 | g3
  · clear hno
    go_wp2
    all_goals
      go_ret
      exact ⟨rfl, Below.refl _ _⟩
  exact absurd ⟨h1, h2, h3, h4, g1, g2, g3⟩ hno

end Go.Proofs.Qxb6604010a
