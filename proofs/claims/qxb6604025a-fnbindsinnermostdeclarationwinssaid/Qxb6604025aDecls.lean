import Derived.Test.Qxb6604025aScope
namespace Go.Proofs.Qxb6604025a
open Go.RowKit

theorem info51 : (Try.prog.info? 51).map (fun i => (i.zero, i.size, i.bytes)) = some (some (.agg #[.string ⟨#[]⟩, .string ⟨#[]⟩]), 2, 32) := by kernel_rfl

/-- 'make([]Decl, n)' -/
theorem make_decls (n : Nat) (hn : n ≤ 1048576) (w : World) :
    (Instr.makeSlice 32 (.int .i64 n) (.int .i64 n)).run Try.prog w = .ok (.slice (some ⟨w.heap.size, 0, none⟩) n n) (w.alloc (.cells (madeCells #[.string ⟨#[]⟩, .string ⟨#[]⟩] (n * 2)) 51)) := by
  obtain ⟨i, hi, hz, hs, hb⟩ := info_parts info51
  have h := run_make (P := Try.prog) w 32 51 i _ Try.underlying32 hi hz .i64 .i64 n n (by omega) (Int.le_refl _) (by rw [hb]; omega) (by omega)
  simp only [Int.toNat_natCast, hs, Value.cells] at h
  exact h

/-- A bool, whichever. -/
def IsBit (e : Ending) : Prop := ∃ r, e = .returned (.bool r)
/-- A small number. -/
def IsSmall (e : Ending) : Prop := ∃ r : Int, 0 ≤ r ∧ r ≤ 1048577 ∧ e = .returned (.int .i64 r)

set_option maxHeartbeats 1000000 in
/-- zzDeclBytes -/
theorem declBytes_any (a : Option Addr) (n C : Nat) (Pf Ns : Nat → ByteArray) (w : World) (hn : n ≤ 65536) (hD : Decls w a n Pf Ns) :
    Calls Try.prog 17 #[.slice a n C] w fun e w' => IsSmall e ∧ ∃ q, w' = w.drewN q := by
  have HD := hide hD
  clear hD
  go_enter Try.func17, Try.ntmps17
  rcases Nat.lt_or_ge 1048576 (32 * n) with h | h
  · go_wp2
    go_ret
    exact ⟨⟨_, by omega, by omega, rfl⟩, 0, rfl⟩
  go_wp2
  go_loopw [3, 4] (fun t i wr => ∃ (k : Nat) (m : Int), k ≤ n ∧ i = .int .i64 k ∧ t = .int .i64 m ∧ 0 ≤ m ∧ m ≤ 1048576 ∧ ∃ q, wr = w.drewN q) (fun _ i _ => n - (intOf i).toNat)
  case atStart => exact ⟨0, _, Nat.zero_le _, rfl, rfl, by omega, by omega, 0, rfl⟩
  case round =>
    obtain ⟨k, m, hk, rfl, rfl, hm0, hm1, q, rfl⟩ := hrel
    by_cases hlt : k < n
    · rcases HD.out with h0 | ⟨b, o, rfl, hl, hcc⟩
      · omega
      obtain ⟨c0, c1⟩ := hcc k hlt
      clear hcc
      rcases Nat.lt_or_ge 1048576 (Pf k).size with h1 | h1
      · go_wp2
        go_ret
        exact ⟨⟨_, by omega, by omega, rfl⟩, _, rfl⟩
      rcases Nat.lt_or_ge 1048576 (Ns k).size with h2 | h2
      · go_wp2
        go_ret
        exact ⟨⟨_, by omega, by omega, rfl⟩, _, rfl⟩
      go_wp2
      go_quiet (fail)
      go_wp2
      · go_ret
        exact ⟨⟨_, by omega, by omega, rfl⟩, _, rfl⟩
      · go_roundw
        case rel => exact ⟨k + 1, _, by omega, by go_num, rfl, by omega, by assumption, _, rfl⟩
        case measure => simp [intOf]; omega
    · go_wp2
      go_ret
      exact ⟨⟨_, hm0, by omega, rfl⟩, _, rfl⟩

end Go.Proofs.Qxb6604025a
