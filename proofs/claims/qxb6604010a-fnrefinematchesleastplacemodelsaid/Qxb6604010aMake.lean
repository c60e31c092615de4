import Derived.Test.Qxb6604010aGen
namespace Go.Proofs.Qxb6604010a
open Go.RowKit Go.Maps

set_option maxHeartbeats 400000 in
/-- ZZMakeGeneralization. -/
theorem make_any (sp : Int) (a : Option Addr) (L C : Nat) (Z : Nat → Int) (v2 v3 : Value) (av : Option Addr) (Lv Cv : Nat) (ao : Option Addr) (Ls Cs : Nat) (h2 : v2 = .slice av Lv Cv) (h3 : v3 = .slice ao Ls Cs) (w : World) (hL : L ≤ 1048576) (hn : a = none → L = 0 ∧ C = 0) (hr : Row w a L Z) :
    Calls Try.prog 15 #[.int .i32 sp, .slice a L C, v2, v3] w fun e w' => ∃ g a' C', e = .returned (.pointer (some ⟨g, 0, none⟩)) ∧ w.heap.size ≤ g ∧ g < w'.heap.size ∧
      w'.cell? ⟨g, 0, none⟩ = some (.int .i32 sp) ∧ w'.cell? ⟨g, 1, none⟩ = some (.slice a' L C') ∧ w'.cell? ⟨g, 2, none⟩ = some v2 ∧ w'.cell? ⟨g, 3, none⟩ = some v3 ∧
      (a' = none → L = 0 ∧ C' = 0) ∧ NewRow w.heap.size w' a' L Z ∧ Below w.heap.size w w' := by
  subst h2 h3
  go_enter Try.func15, Try.ntmps15
  go_wp2_with fail
  refine (atom_any a L C Z _ hL hn hr).mono ?_
  rintro e w1 ⟨a', C', rfl, hn', hrow, hb⟩
  have HN := hide hn'
  have HR := hide hrow
  have HB := hide hb
  clear hn' hrow hb
  go_wp2
  go_ret
  refine ⟨w1.heap.size, a', C', rfl, HB.out.size, by simp, by simp, by simp, by simp, by simp, HN.out, ?_, HB.out.alloc HB.out.size _⟩
  rcases HR.out with h | ⟨b, t, ha, hB, hr⟩
  · exact .inl h
  · exact .inr ⟨b, t, ha, hB, hr.alloc _⟩

set_option maxHeartbeats 400000 in
/-- ZZGenFirst. -/
theorem genFirst_any (g : Nat) (a0 : Option Addr) (Lf Cf : Nat) (Z0 : Nat → Int) (w : World) (c1 : w.cell? ⟨g, 1, none⟩ = some (.slice a0 Lf Cf)) (hL : Lf ≤ 1048576) (hn : a0 = none → Lf = 0 ∧ Cf = 0) (hr : Row w a0 Lf Z0) :
    Calls Try.prog 19 #[.pointer (some ⟨g, 0, none⟩)] w fun e w' => ∃ a' C', e = .returned (.slice a' Lf C') ∧ Row w' a' Lf Z0 ∧ Below w.heap.size w w' := by
  have HN := hide hn
  have HR := hide hr
  clear hn hr
  go_enter Try.func19, Try.ntmps19
  go_wp2_with fail
  refine (ints_any a0 Lf Cf Z0 _ hL HN.out HR.out).mono ?_
  rintro e w1 ⟨a', C', rfl, hn', hrow, hb⟩
  have HR := hide hrow
  have HB := hide hb
  clear hn' hrow hb
  go_wp2
  go_ret
  exact ⟨a', C', rfl, HR.out.row, HB.out⟩

set_option maxHeartbeats 400000 in
/-- ZZGenSpeaker. -/
theorem genSpeaker_any (g : Nat) (sp : Int) (w : World) (c0 : w.cell? ⟨g, 0, none⟩ = some (.int .i32 sp)) :
    Calls Try.prog 17 #[.pointer (some ⟨g, 0, none⟩)] w fun e w' => e = .returned (.int .i32 sp) ∧ w' = w := by
  go_enter Try.func17, Try.ntmps17
  go_wp2
  go_ret
  exact ⟨rfl, rfl⟩

/-- A bool, whichever. -/
def IsBool (e : Ending) : Prop := ∃ r, e = .returned (.bool r)

set_option maxHeartbeats 400000 in
/-- zzBytes_FnRefineScriptKeepsLeastGeneralization: some bool. -/
theorem bytes20_any (bf fo n Cf : Nat) (A : Nat → Option Addr) (L C : Nat → Nat) (Z : Nat → Nat → Int) (w : World) (hF : Facts w bf fo n A L C Z) :
    Calls Try.prog 20 #[.slice (some ⟨bf, fo, none⟩) n Cf] w fun e w' => IsBool e ∧ w' = w := by
  have HF := hide hF
  clear hF
  go_enter Try.func20, Try.ntmps20
  by_cases hn : n ≤ 1048576
  · go_wp2
    go_loop [3, 4] (fun s i => ∃ (k : Nat) (m : Int), k ≤ n ∧ i = .int .i64 k ∧ s = .int .i64 m ∧ 0 ≤ m ∧ m ≤ 1048576) (fun _ i => n - (intOf i).toNat)
    case atStart => exact ⟨0, n, Nat.zero_le _, rfl, rfl, by omega, by omega⟩
    case round =>
      obtain ⟨k, m, hk, rfl, rfl, hm0, hm⟩ := hrel
      by_cases hlt : k < n
      · have c1 := (HF.out.2 k hlt).1
        go_wp2
        · go_ret
          exact ⟨⟨_, rfl⟩, rfl⟩
        · go_ret
          exact ⟨⟨_, rfl⟩, rfl⟩
        · go_round
          case rel => exact ⟨k + 1, _, by omega, by go_num, rfl, by omega, by assumption⟩
          case measure => simp [intOf]; omega
      · go_wp2
        go_ret
        exact ⟨⟨_, rfl⟩, rfl⟩
  · go_wp2
    go_ret
    exact ⟨⟨_, rfl⟩, rfl⟩

end Go.Proofs.Qxb6604010a
