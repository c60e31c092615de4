import Derived.Test.Qxb6604025aDecls
namespace Go.Proofs.Qxb6604025a
open Go.RowKit

/-- The cells of n declarations, the first k laid. -/
def dCell (k : Nat) (Pf Ns : Nat → ByteArray) (j : Nat) : Value := if j < k * 2 then (if j % 2 = 0 then .string (Pf (j / 2)) else .string (Ns (j / 2))) else .string ⟨#[]⟩

theorem dCell_step (k : Nat) (Pf Ns : Nat → ByteArray) (j : Nat) : (if j = k * 2 + 1 then Value.string (Ns k) else if j = k * 2 then .string (Pf k) else dCell k Pf Ns j) = dCell (k + 1) Pf Ns j := by
  by_cases h1 : j = k * 2 + 1
  · subst h1
    have e1 : (k * 2 + 1) / 2 = k := by omega
    have e2 : ¬ (k * 2 + 1) % 2 = 0 := by omega
    simp only [if_true, dCell, e1, if_neg e2]
    rw [if_pos (by omega)]
  · by_cases h2 : j = k * 2
    · subst h2
      have e1 : (k * 2) / 2 = k := by omega
      have e2 : (k * 2) % 2 = 0 := by omega
      simp only [if_neg h1, if_true, dCell, e1, if_pos e2]
      rw [if_pos (by omega)]
    · simp only [if_neg h1, if_neg h2, dCell]
      by_cases h3 : j < k * 2
      · have h4 : j < (k + 1) * 2 := by omega
        simp only [if_pos h3, if_pos h4]
      · have h4 : ¬ j < (k + 1) * 2 := by omega
        simp only [if_neg h3, if_neg h4]

set_option maxHeartbeats 400000 in
theorem cloneDecls_nil (w : World) : Calls Try.prog 18 #[.slice none 0 0] w fun e w' => e = .returned (.slice none 0 0) ∧ w' = w := by
  have hn := fun w => Lib.run_eql_slice_nil (P := Try.prog) w 32 51 none 0 0 0 0 Try.underlying32
  go_enter Try.func18, Try.ntmps18
  go_wp2
  go_ret
  exact ⟨rfl, rfl⟩

set_option maxHeartbeats 400000 in
theorem cloneDecls_some (x : Addr) (n C : Nat) (Pf Ns : Nat → ByteArray) (w : World) (hn : n ≤ 65536) (hD : Decls w (some x) n Pf Ns) :
    Calls Try.prog 18 #[.slice (some x) n C] w fun e w' => e = .returned (.slice (some ⟨w.heap.size, 0, none⟩) n n) ∧ w'.rowIs w.heap.size 51 (n * 2) (dCell n Pf Ns) ∧ Below w.heap.size w w' := by
  have hnl := fun w => Lib.run_eql_slice_nil (P := Try.prog) w 32 51 (some x) n C 0 0 Try.underlying32
  have hmk := make_decls n (by omega)
  have HD := hide hD
  clear hD
  go_enter Try.func18, Try.ntmps18
  go_wp2
  go_loopw [4] (fun i wr => ∃ k : Nat, k ≤ n ∧ i = .int .i64 k ∧ wr.rowIs w.heap.size 51 (n * 2) (dCell k Pf Ns) ∧ Below w.heap.size w wr) (fun i _ => n - (intOf i).toNat)
  case atStart =>
    refine ⟨0, Nat.zero_le _, rfl, ⟨_, (MapKept.heap_alloc w _).1, size_madeCells _ _, fun i hi => ?_⟩, (Below.refl _ _).alloc (Nat.le_refl _) _⟩
    have h2 : i % 2 = 0 ∨ i % 2 = 1 := by omega
    rcases h2 with h2 | h2 <;> simp [madeCells, dCell, hi, h2]
  case round =>
    obtain ⟨k, hk, rfl, hrow, hb⟩ := hrel
    by_cases hlt : k < n
    · rcases HD.out.below hb with h0 | ⟨b, o, hx, hlb, hcc⟩
      · omega
      cases hx
      obtain ⟨c0, c1⟩ := hcc k hlt
      clear hcc
      have f0 := hrow.frozen (k * 2)
      have f1 := hrow.frozen (k * 2 + 1)
      have r0 := hrow.cell (i := k * 2) (by omega)
      have r1 := hrow.cell (i := k * 2 + 1) (by omega)
      have HR := hide hrow
      have HB := hide hb
      clear hrow hb
      go_wp2
      go_roundw
      case rel => exact ⟨k + 1, by omega, by go_num, ((HR.out.set (k * 2) _).set (k * 2 + 1) _).congr (fun j _ => dCell_step k Pf Ns j), (HB.out.setCell (by simp) _).setCell (by simp) _⟩
      case measure => simp [intOf]; omega
    · obtain rfl : k = n := by omega
      go_wp2
      go_ret
      exact ⟨rfl, hrow, hb⟩

/-- zzCloneDecls -/
theorem cloneDecls_any (a : Option Addr) (n C : Nat) (Pf Ns : Nat → ByteArray) (w : World) (hn : n ≤ 65536) (hnil : a = none → n = 0 ∧ C = 0) (hD : Decls w a n Pf Ns) :
    Calls Try.prog 18 #[.slice a n C] w fun e w' => ∃ a' C', e = .returned (.slice a' n C') ∧ Decls w' a' n Pf Ns ∧ Below w.heap.size w w' := by
  cases a with
  | none =>
    obtain ⟨rfl, rfl⟩ := hnil rfl
    refine (cloneDecls_nil w).mono ?_
    rintro e w' ⟨rfl, rfl⟩
    exact ⟨_, _, rfl, .inl rfl, Below.refl _ _⟩
  | some x =>
    refine (cloneDecls_some x n C Pf Ns w hn hD).mono ?_
    rintro e w' ⟨rfl, h1, h2⟩
    refine ⟨_, _, rfl, .inr ⟨_, 0, rfl, h1.lt, fun i hi => ⟨?_, ?_⟩⟩, h2⟩
    · rw [Nat.zero_add, h1.cell (i := i * 2) (by omega)]
      have e1 : (i * 2) / 2 = i := by omega
      have e2 : (i * 2) % 2 = 0 := by omega
      simp only [dCell, e1, if_pos e2]
      rw [if_pos (by omega)]
    · rw [Nat.zero_add, h1.cell (i := i * 2 + 1) (by omega)]
      have e1 : (i * 2 + 1) / 2 = i := by omega
      have e2 : ¬ (i * 2 + 1) % 2 = 0 := by omega
      simp only [dCell, e1, if_neg e2]
      rw [if_pos (by omega)]

set_option maxHeartbeats 1000000 in
/-- zzBytes_FnBindsPushedDeclarationShadows: some bool. -/
theorem bytes22_any (a : Option Addr) (n C : Nat) (Pf Ns : Nat → ByteArray) (s1 s2 s3 s4 : ByteArray) (w : World) (hD : Decls w a n Pf Ns) :
    Calls Try.prog 22 #[.slice a n C, .string s1, .string s2, .string s3, .string s4] w fun e w' => IsBit e ∧ w' = w := by
  have HD := hide hD
  clear hD
  go_enter Try.func22, Try.ntmps22
  rcases Nat.lt_or_ge 1048576 n with h | h
  · go_wp2
    go_ret
    exact ⟨⟨_, rfl⟩, rfl⟩
  go_wp2
  go_loop [11, 12] (fun t i => ∃ (k : Nat) (m : Int), k ≤ n ∧ i = .int .i64 k ∧ t = .int .i64 m ∧ 0 ≤ m ∧ m ≤ 1048576) (fun _ i => n - (intOf i).toNat)
  case atStart => exact ⟨0, _, Nat.zero_le _, rfl, rfl, by omega, by omega⟩
  case round =>
    obtain ⟨k, m, hk, rfl, rfl, hm0, hm1⟩ := hrel
    by_cases hlt : k < n
    · rcases HD.out with h0 | ⟨b, o, rfl, hl, hcc⟩
      · omega
      obtain ⟨c0, c1⟩ := hcc k hlt
      clear hcc
      go_wp2
      · go_ret
        exact ⟨⟨_, rfl⟩, rfl⟩
      · go_ret
        exact ⟨⟨_, rfl⟩, rfl⟩
      · go_ret
        exact ⟨⟨_, rfl⟩, rfl⟩
      · go_ret
        exact ⟨⟨_, rfl⟩, rfl⟩
      · go_round
        case rel => exact ⟨k + 1, _, by omega, by go_num, rfl, by omega, by assumption⟩
        case measure => simp [intOf]; omega
    · go_wp2
      all_goals
        go_ret
        exact ⟨⟨_, rfl⟩, rfl⟩

set_option maxHeartbeats 1000000 in
/-- zzBytes_FnBindsInnermostDeclarationWins: some bool. -/
theorem bytes16_any (a : Option Addr) (n C : Nat) (Pf Ns : Nat → ByteArray) (s1 s2 : ByteArray) (w : World) (hD : Decls w a n Pf Ns) :
    Calls Try.prog 16 #[.slice a n C, .string s1, .string s2] w fun e w' => IsBit e ∧ w' = w := by
  have HD := hide hD
  clear hD
  go_enter Try.func16, Try.ntmps16
  rcases Nat.lt_or_ge 1048576 n with h | h
  · go_wp2
    go_ret
    exact ⟨⟨_, rfl⟩, rfl⟩
  go_wp2
  go_loop [7, 8] (fun t i => ∃ (k : Nat) (m : Int), k ≤ n ∧ i = .int .i64 k ∧ t = .int .i64 m ∧ 0 ≤ m ∧ m ≤ 1048576) (fun _ i => n - (intOf i).toNat)
  case atStart => exact ⟨0, _, Nat.zero_le _, rfl, rfl, by omega, by omega⟩
  case round =>
    obtain ⟨k, m, hk, rfl, rfl, hm0, hm1⟩ := hrel
    by_cases hlt : k < n
    · rcases HD.out with h0 | ⟨b, o, rfl, hl, hcc⟩
      · omega
      obtain ⟨c0, c1⟩ := hcc k hlt
      clear hcc
      go_wp2
      · go_ret
        exact ⟨⟨_, rfl⟩, rfl⟩
      · go_ret
        exact ⟨⟨_, rfl⟩, rfl⟩
      · go_ret
        exact ⟨⟨_, rfl⟩, rfl⟩
      · go_ret
        exact ⟨⟨_, rfl⟩, rfl⟩
      · go_round
        case rel => exact ⟨k + 1, _, by omega, by go_num, rfl, by omega, by assumption⟩
        case measure => simp [intOf]; omega
    · go_wp2
      all_goals
        go_ret
        exact ⟨⟨_, rfl⟩, rfl⟩

end Go.Proofs.Qxb6604025a
