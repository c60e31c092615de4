import Derived.Test.Qxb6604010aMake
namespace Go.Proofs.Qxb6604010a
open Go.RowKit Go.Maps

/-- A slice of one-cell elements that is read. -/
def RowV (w : World) (a : Option Addr) (L : Nat) (G : Nat → Value) : Prop :=
  L = 0 ∨ ∃ b o, a = some ⟨b, o, none⟩ ∧ b < w.heap.size ∧ ∀ j, j < L → w.cell? ⟨b, o + j, none⟩ = some (G j)

theorem RowV.below {w w' : World} {a : Option Addr} {L : Nat} {G : Nat → Value} (h : RowV w a L G) (hb : Below w.heap.size w w') : RowV w' a L G := by
  rcases h with h | ⟨b, o, ha, hl, hc⟩
  · exact .inl h
  · exact .inr ⟨b, o, ha, Nat.lt_of_lt_of_le hl hb.size, fun j hj => (hb.cell (p := ⟨b, o + j, none⟩) hl).trans (hc j hj)⟩

/-- A row of the call's own, from block B on; nil where the other was. -/
def OwnV (B : Nat) (w : World) (t : TypeId) (a : Option Addr) (L : Nat) (G : Nat → Value) : Prop :=
  (a = none ∧ L = 0) ∨ ∃ b, a = some ⟨b, 0, none⟩ ∧ B ≤ b ∧ w.rowIs b t L G

set_option maxHeartbeats 400000 in
theorem cloneBools_nil (w : World) :
    Calls Try.prog 13 #[.slice none 0 0] w fun e w' => e = .returned (.slice none 0 0) ∧ w' = w := by
  have hn := fun w => Lib.run_eql_slice_nil (P := Try.prog) w 28 4 none 0 0 0 0 Try.underlying28
  go_enter Try.func13, Try.ntmps13
  go_wp2
  go_ret
  exact ⟨rfl, rfl⟩

set_option maxHeartbeats 400000 in
theorem cloneBools_some (x : Addr) (L C : Nat) (V : Nat → Bool) (w : World) (hL : L ≤ 1048576) (hr : RowV w (some x) L (fun j => .bool (V j))) :
    Calls Try.prog 13 #[.slice (some x) L C] w fun e w' => e = .returned (.slice (some ⟨w.heap.size, 0, none⟩) L L) ∧ w'.rowIs w.heap.size 4 L (fun j => .bool (V j)) ∧ Below w.heap.size w w' ∧ w'.heap.size = w.heap.size + 1 := by
  have hn := fun w => Lib.run_eql_slice_nil (P := Try.prog) w 28 4 (some x) L C 0 0 Try.underlying28
  have hmk := run_make_row' (P := Try.prog) 28 4 (.bool false) 1 Try.underlying28 info4 rfl .i64 .i64 L (by omega) (by omega)
  have hrow0 : ∀ w : World, (w.alloc (.cells (madeCells #[.bool false] L) 4)).rowIs w.heap.size 4 L (fun _ => .bool false) := fun w => World.rowIs_made w _ _ _
  go_enter Try.func13, Try.ntmps13
  go_wp2
  go_loopw [4] (fun i wr => ∃ k : Nat, k ≤ L ∧ i = .int .i64 k ∧ wr.rowIs w.heap.size 4 L (fun j => if j < k then .bool (V j) else .bool false) ∧ Below w.heap.size w wr ∧ wr.heap.size = w.heap.size + 1) (fun i _ => L - (intOf i).toNat)
  case atStart => exact ⟨0, Nat.zero_le _, rfl, (hrow0 w).congr (by simp), (Below.refl _ _).alloc (Nat.le_refl _) _, by simp⟩
  case round =>
    obtain ⟨k, hk, rfl, hrow, hb, hs⟩ := hrel
    by_cases hlt : k < L
    · rcases hr with rfl | ⟨b, o, hx, hlb, hc⟩
      · omega
      · cases hx
        have hck := (hb.cell (p := ⟨b, o + k, none⟩) hlb).trans (hc k hlt)
        have hfr := hrow.frozen k
        have hcw := hrow.cell hlt
        go_wp2
        go_roundw
        case rel =>
          refine ⟨k + 1, by omega, by go_num, (hrow.set k _).congr (fun j hj => ?_), hb.setCell (by simp) _, by simp [hs]⟩
          by_cases e : j = k
          · subst e; simp
          · by_cases h2 : j < k
            · simp [e, h2, show j < k + 1 by omega]
            · simp [e, h2, show ¬ j < k + 1 by omega]
        case measure => simp [intOf]; omega
    · go_wp2
      go_ret
      have : k = L := by omega
      subst this
      exact ⟨rfl, hrow.congr (fun i hi => by simp [hi]), hb, hs⟩

theorem cloneBools_any (a : Option Addr) (L C : Nat) (V : Nat → Bool) (w : World) (hL : L ≤ 1048576) (hn : a = none → L = 0 ∧ C = 0) (hr : RowV w a L (fun j => .bool (V j))) :
    Calls Try.prog 13 #[.slice a L C] w fun e w' => ∃ a' C', e = .returned (.slice a' L C') ∧ OwnV w.heap.size w' 4 a' L (fun j => .bool (V j)) ∧ Below w.heap.size w w' := by
  cases a with
  | none =>
    obtain ⟨rfl, rfl⟩ := hn rfl
    refine (cloneBools_nil w).mono ?_
    rintro e w' ⟨rfl, rfl⟩
    exact ⟨_, _, rfl, .inl ⟨rfl, rfl⟩, Below.refl _ _⟩
  | some x =>
    refine (cloneBools_some x L C V w hL hr).mono ?_
    rintro e w' ⟨rfl, h1, h2, _⟩
    exact ⟨_, _, rfl, .inr ⟨_, rfl, Nat.le_refl _, h1⟩, h2⟩

set_option maxHeartbeats 400000 in
theorem cloneInts_nil (w : World) :
    Calls Try.prog 14 #[.slice none 0 0] w fun e w' => e = .returned (.slice none 0 0) ∧ w' = w := by
  have hn := fun w => Lib.run_eql_slice_nil (P := Try.prog) w 29 3 none 0 0 0 0 Try.underlying29
  go_enter Try.func14, Try.ntmps14
  go_wp2
  go_ret
  exact ⟨rfl, rfl⟩

set_option maxHeartbeats 400000 in
theorem cloneInts_some (x : Addr) (L C : Nat) (V : Nat → Int) (w : World) (hL : L ≤ 1048576) (hr : RowV w (some x) L (fun j => .int .i64 (V j))) :
    Calls Try.prog 14 #[.slice (some x) L C] w fun e w' => e = .returned (.slice (some ⟨w.heap.size, 0, none⟩) L L) ∧ w'.rowIs w.heap.size 3 L (fun j => .int .i64 (V j)) ∧ Below w.heap.size w w' ∧ w'.heap.size = w.heap.size + 1 := by
  have hn := fun w => Lib.run_eql_slice_nil (P := Try.prog) w 29 3 (some x) L C 0 0 Try.underlying29
  have hmk := run_make_row' (P := Try.prog) 29 3 (.int .i64 0) 8 Try.underlying29 info3 rfl .i64 .i64 L (by omega) (by omega)
  have hrow0 : ∀ w : World, (w.alloc (.cells (madeCells #[.int .i64 0] L) 3)).rowIs w.heap.size 3 L (fun _ => .int .i64 0) := fun w => World.rowIs_made w _ _ _
  go_enter Try.func14, Try.ntmps14
  go_wp2
  go_loopw [4] (fun i wr => ∃ k : Nat, k ≤ L ∧ i = .int .i64 k ∧ wr.rowIs w.heap.size 3 L (fun j => if j < k then .int .i64 (V j) else .int .i64 0) ∧ Below w.heap.size w wr ∧ wr.heap.size = w.heap.size + 1) (fun i _ => L - (intOf i).toNat)
  case atStart => exact ⟨0, Nat.zero_le _, rfl, (hrow0 w).congr (by simp), (Below.refl _ _).alloc (Nat.le_refl _) _, by simp⟩
  case round =>
    obtain ⟨k, hk, rfl, hrow, hb, hs⟩ := hrel
    by_cases hlt : k < L
    · rcases hr with rfl | ⟨b, o, hx, hlb, hc⟩
      · omega
      · cases hx
        have hck := (hb.cell (p := ⟨b, o + k, none⟩) hlb).trans (hc k hlt)
        have hfr := hrow.frozen k
        have hcw := hrow.cell hlt
        go_wp2
        go_roundw
        case rel =>
          refine ⟨k + 1, by omega, by go_num, (hrow.set k _).congr (fun j hj => ?_), hb.setCell (by simp) _, by simp [hs]⟩
          by_cases e : j = k
          · subst e; simp
          · by_cases h2 : j < k
            · simp [e, h2, show j < k + 1 by omega]
            · simp [e, h2, show ¬ j < k + 1 by omega]
        case measure => simp [intOf]; omega
    · go_wp2
      go_ret
      have : k = L := by omega
      subst this
      exact ⟨rfl, hrow.congr (fun i hi => by simp [hi]), hb, hs⟩

theorem cloneInts_any (a : Option Addr) (L C : Nat) (V : Nat → Int) (w : World) (hL : L ≤ 1048576) (hn : a = none → L = 0 ∧ C = 0) (hr : RowV w a L (fun j => .int .i64 (V j))) :
    Calls Try.prog 14 #[.slice a L C] w fun e w' => ∃ a' C', e = .returned (.slice a' L C') ∧ OwnV w.heap.size w' 3 a' L (fun j => .int .i64 (V j)) ∧ Below w.heap.size w w' := by
  cases a with
  | none =>
    obtain ⟨rfl, rfl⟩ := hn rfl
    refine (cloneInts_nil w).mono ?_
    rintro e w' ⟨rfl, rfl⟩
    exact ⟨_, _, rfl, .inl ⟨rfl, rfl⟩, Below.refl _ _⟩
  | some x =>
    refine (cloneInts_some x L C V w hL hr).mono ?_
    rintro e w' ⟨rfl, h1, h2, _⟩
    exact ⟨_, _, rfl, .inr ⟨_, rfl, Nat.le_refl _, h1⟩, h2⟩

set_option maxHeartbeats 1000000 in
/-- zzBytes_FnRefineMatchesLeastPlaceModel: some bool. -/
theorem bytes12_any (sp : Int) (a1 a2 a3 a4 : Option Addr) (L1 C1 L2 C2 L3 C3 L4 C4 : Nat) (w : World) :
    Calls Try.prog 12 #[.int .i32 sp, .slice a1 L1 C1, .slice a2 L2 C2, .slice a3 L3 C3, .slice a4 L4 C4] w fun e w' => IsBool e ∧ w' = w := by
  go_enter Try.func12, Try.ntmps12
  go_wp2
  all_goals
    go_ret
    exact ⟨⟨_, rfl⟩, rfl⟩

end Go.Proofs.Qxb6604010a
