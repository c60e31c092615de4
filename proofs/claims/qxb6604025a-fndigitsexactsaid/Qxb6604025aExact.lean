import Derived.Test.Qxb6604025aBase
namespace Go.Proofs.Qxb6604025a
open Go.RowKit

theorem first_bad (Z : Nat → Int) : ∀ L, (∀ j, j < L → 48 ≤ Z j ∧ Z j ≤ 57) ∨ ∃ m, m < L ∧ (∀ j, j < m → 48 ≤ Z j ∧ Z j ≤ 57) ∧ (Z m < 48 ∨ 57 < Z m)
  | 0 => .inl fun j hj => absurd hj (Nat.not_lt_zero _)
  | L + 1 => by
    rcases first_bad Z L with h | ⟨m, hm, h1, h2⟩
    · by_cases hd : 48 ≤ Z L ∧ Z L ≤ 57
      · refine .inl fun j hj => ?_
        rcases Nat.lt_succ_iff_lt_or_eq.1 hj with h' | h'
        · exact h j h'
        · subst h'; exact hd
      · exact .inr ⟨L, Nat.lt_succ_self _, h, by omega⟩
    · exact .inr ⟨m, by omega, h1, h2⟩

/-- A bool, whichever. -/
def IsBool (e : Ending) : Prop := ∃ r, e = .returned (.bool r)

set_option maxHeartbeats 400000 in
theorem bytes9_any (a : Option Addr) (L C : Nat) (w : World) : Calls Try.prog 9 #[.slice a L C] w fun e w' => IsBool e ∧ w' = w := by
  go_enter Try.func9, Try.ntmps9
  go_wp2
  all_goals
    go_ret
    exact ⟨⟨_, rfl⟩, rfl⟩

set_option maxHeartbeats 400000 in
theorem cloneBytes_nil (w : World) : Calls Try.prog 10 #[.slice none 0 0] w fun e w' => e = .returned (.slice none 0 0) ∧ w' = w := by
  have hn := fun w => Lib.run_eql_slice_nil (P := Try.prog) w 22 5 none 0 0 0 0 Try.underlying22
  go_enter Try.func10, Try.ntmps10
  go_wp2
  go_ret
  exact ⟨rfl, rfl⟩

set_option maxHeartbeats 400000 in
theorem cloneBytes_some (x : Addr) (L C : Nat) (Z : Nat → Int) (w : World) (hL : L ≤ 1048576) (hr : RowV w (some x) L (fun j => .int .u8 (Z j))) :
    Calls Try.prog 10 #[.slice (some x) L C] w fun e w' => e = .returned (.slice (some ⟨w.heap.size, 0, none⟩) L L) ∧ w'.rowIs w.heap.size 5 L (fun j => .int .u8 (Z j)) ∧ Below w.heap.size w w' := by
  have hn := fun w => Lib.run_eql_slice_nil (P := Try.prog) w 22 5 (some x) L C 0 0 Try.underlying22
  have hmk := run_make_row' (P := Try.prog) 22 5 (.int .u8 0) 1 Try.underlying22 info5 rfl .i64 .i64 L (by omega) (by omega)
  go_enter Try.func10, Try.ntmps10
  go_wp2
  go_loopw [4] (fun i wr => ∃ k : Nat, k ≤ L ∧ i = .int .i64 k ∧ wr.rowIs w.heap.size 5 L (fun j => if j < k then .int .u8 (Z j) else .int .u8 0) ∧ Below w.heap.size w wr) (fun i _ => L - (intOf i).toNat)
  case atStart => exact ⟨0, Nat.zero_le _, rfl, (World.rowIs_made w _ _ _).congr (by simp), (Below.refl _ _).alloc (Nat.le_refl _) _⟩
  case round =>
    obtain ⟨k, hk, rfl, hrow, hb⟩ := hrel
    by_cases hlt : k < L
    · rcases hr with rfl | ⟨b, o, hx, hlb, hc⟩
      · omega
      · cases hx
        have hck := (hb.cell (p := ⟨b, o + k, none⟩) hlb).trans (hc k hlt)
        have hfr := hrow.frozen k
        have hcw := hrow.cell hlt
        go_wp2
        go_roundw
        case rel =>
          refine ⟨k + 1, by omega, by go_num, (hrow.set k _).congr (fun j hj => ?_), hb.setCell (by simp) _⟩
          by_cases e : j = k
          · subst e; simp
          · by_cases h2 : j < k
            · simp [e, h2, show j < k + 1 by omega]
            · simp [e, h2, show ¬ j < k + 1 by omega]
        case measure => simp [intOf]; omega
    · go_wp2
      go_ret
      have : k = L := by omega
      subst this
      exact ⟨rfl, hrow.congr (fun i hi => by simp [hi]), hb⟩

theorem cloneBytes_any (a : Option Addr) (L C : Nat) (Z : Nat → Int) (w : World) (hL : L ≤ 1048576) (hn : a = none → L = 0 ∧ C = 0) (hr : RowV w a L (fun j => .int .u8 (Z j))) :
    Calls Try.prog 10 #[.slice a L C] w fun e w' => ∃ a' C', e = .returned (.slice a' L C') ∧ RowV w' a' L (fun j => .int .u8 (Z j)) ∧ Below w.heap.size w w' := by
  cases a with
  | none =>
    obtain ⟨rfl, rfl⟩ := hn rfl
    refine (cloneBytes_nil w).mono ?_
    rintro e w' ⟨rfl, rfl⟩
    exact ⟨_, _, rfl, .inl rfl, Below.refl _ _⟩
  | some x =>
    refine (cloneBytes_some x L C Z w hL hr).mono ?_
    rintro e w' ⟨rfl, h1, h2⟩
    exact ⟨_, _, rfl, .inr ⟨_, 0, rfl, h1.lt, fun j hj => by rw [Nat.zero_add]; exact h1.cell hj⟩, h2⟩

set_option maxHeartbeats 400000 in
theorem isText_len (a : Option Addr) (L C : Nat) (w : World) (h : L = 0 ∨ 18 < L) : Calls Try.prog 12 #[.slice a L C] w fun e w' => e = .returned (.bool false) ∧ w' = w := by
  rcases h with rfl | h
  · go_enter Try.func12, Try.ntmps12
    go_wp2
    go_ret
    exact ⟨rfl, rfl⟩
  · go_enter Try.func12, Try.ntmps12
    go_wp2
    go_ret
    exact ⟨rfl, rfl⟩

set_option maxHeartbeats 400000 in
theorem isText_yes (a : Option Addr) (L C : Nat) (Z : Nat → Int) (w : World) (h1 : 1 ≤ L) (h18 : L ≤ 18) (hd : ∀ j, j < L → 48 ≤ Z j ∧ Z j ≤ 57) (hr : RowV w a L (fun j => .int .u8 (Z j))) :
    Calls Try.prog 12 #[.slice a L C] w fun e w' => e = .returned (.bool true) ∧ w' = w := by
  rcases hr with h0 | ⟨b, o, rfl, hlb, hc⟩
  · omega
  have HD := hide hd
  have HC := hide hc
  clear hd hc
  go_enter Try.func12, Try.ntmps12
  go_wp2
  go_loop [3] (fun i => ∃ k : Nat, k ≤ L ∧ i = .int .i64 k) (fun i => L - (intOf i).toNat)
  case atStart => exact ⟨0, Nat.zero_le _, rfl⟩
  case round =>
    obtain ⟨k, hk, rfl⟩ := hrel
    by_cases hlt : k < L
    · have c1 := HC.out k hlt
      obtain ⟨z1, z2⟩ := HD.out k hlt
      go_wp2
      go_round
      case rel => exact ⟨k + 1, by omega, by go_num⟩
      case measure => simp [intOf]; omega
    · go_wp2
      go_ret
      exact ⟨rfl, rfl⟩

set_option maxHeartbeats 400000 in
theorem isText_no (a : Option Addr) (L C : Nat) (Z : Nat → Int) (w : World) (h1 : 1 ≤ L) (h18 : L ≤ 18) (m : Nat) (hm : m < L) (hd : ∀ j, j < m → 48 ≤ Z j ∧ Z j ≤ 57) (hbad : Z m < 48 ∨ 57 < Z m) (hr : RowV w a L (fun j => .int .u8 (Z j))) :
    Calls Try.prog 12 #[.slice a L C] w fun e w' => e = .returned (.bool false) ∧ w' = w := by
  rcases hr with h0 | ⟨b, o, rfl, hlb, hc⟩
  · omega
  have HD := hide hd
  have HC := hide hc
  have HX := hide hbad
  clear hd hc hbad
  go_enter Try.func12, Try.ntmps12
  go_wp2
  go_loop [3] (fun i => ∃ k : Nat, k ≤ m ∧ i = .int .i64 k) (fun i => m - (intOf i).toNat)
  case atStart => exact ⟨0, Nat.zero_le _, rfl⟩
  case round =>
    obtain ⟨k, hk, rfl⟩ := hrel
    by_cases hlt : k < m
    · have c1 := HC.out k (by omega)
      obtain ⟨z1, z2⟩ := HD.out k hlt
      go_wp2
      go_round
      case rel => exact ⟨k + 1, by omega, by go_num⟩
      case measure => simp [intOf]; omega
    · obtain rfl : k = m := by omega
      have c1 := HC.out k hm
      rcases HX.out with hx | hx
      · go_wp2
        go_ret
        exact ⟨rfl, rfl⟩
      · go_wp2
        go_ret
        exact ⟨rfl, rfl⟩

set_option maxHeartbeats 400000 in
theorem same_yes (a a' : Option Addr) (L C C' : Nat) (G : Nat → Int) (w : World) (hL : L ≤ 1048576) (h1 : RowV w a L (fun j => .int .u8 (G j))) (h2 : RowV w a' L (fun j => .int .u8 (G j))) :
    Calls Try.prog 14 #[.slice a L C, .slice a' L C'] w fun e w' => e = .returned (.bool true) ∧ ∃ q, w' = w.drewN q := by
  go_enter Try.func14, Try.ntmps14
  go_wp2
  go_loopw [5] (fun i wr => ∃ k : Nat, k ≤ L ∧ i = .int .i64 k ∧ ∃ q, wr = w.drewN q) (fun i _ => L - (intOf i).toNat)
  case atStart => exact ⟨0, Nat.zero_le _, rfl, 0, rfl⟩
  case round =>
    obtain ⟨k, hk, rfl, q, rfl⟩ := hrel
    by_cases hlt : k < L
    · rcases h1 with rfl | ⟨b, o, rfl, hlb, hc⟩
      · omega
      rcases h2 with rfl | ⟨b', o', rfl, hlb', hc'⟩
      · omega
      have c1 := hc k hlt
      have c2 := hc' k hlt
      clear hc hc'
      go_wp2
      go_quiet (fail)
      go_wp2
      go_roundw
      case rel => exact ⟨k + 1, by omega, by go_num, _, rfl⟩
      case measure => simp [intOf]; omega
    · go_wp2
      go_ret
      exact ⟨rfl, q, rfl⟩

set_option maxHeartbeats 400000 in
/-- The law where digits refuses. -/
theorem exact_no (a : Option Addr) (L C : Nat) (Z : Nat → Int) (w : World) (hL : L ≤ 1048576) (hn : a = none → L = 0 ∧ C = 0) (hr : RowV w a L (fun j => .int .u8 (Z j)))
    (hdg : ∀ (a' : Option Addr) (C' : Nat) (w' : World), RowV w' a' L (fun j => .int .u8 (Z j)) → Calls Try.prog 33 #[.slice a' L C'] w' fun e w'' => e = .returned (.tuple #[.int .u64 0, .bool false]) ∧ w'' = w')
    (htx : ∀ (a' : Option Addr) (C' : Nat) (w' : World), RowV w' a' L (fun j => .int .u8 (Z j)) → Calls Try.prog 12 #[.slice a' L C'] w' fun e w'' => e = .returned (.bool false) ∧ w'' = w') :
    Calls Try.prog 3 #[.slice a L C] w fun e w' => e = .returned (.bool true) ∧ Below w.heap.size w w' := by
  have HR := hide hr
  have HN := hide hn
  have HD := hide hdg
  have HT := hide htx
  clear hr hn hdg htx
  go_enter Try.func3, Try.ntmps3
  go_wp2_with fail
  refine (bytes9_any a L C _).mono ?_
  rintro e w1 ⟨⟨r, rfl⟩, hw1⟩
  rw [hw1]
  clear hw1 w1
  cases r
  · go_wp2
    go_ret
    exact ⟨rfl, Below.refl _ _⟩
  go_wp2_with fail
  refine (cloneBytes_any a L C Z _ hL HN.out HR.out).mono ?_
  rintro e w1 ⟨a', C', rfl, hr1, hb1⟩
  have R1 := hide hr1
  have B1 := hide hb1
  clear hr1 hb1
  go_wp2_with fail
  refine (zzdigits a' L C' _ _ _ (HD.out a' C' _ R1.out)).mono ?_
  rintro e w2 ⟨rfl, hw⟩
  rw [hw]
  clear hw w2
  go_wp2_with fail
  refine (HT.out a' C' _ R1.out).mono ?_
  rintro e w2 ⟨rfl, hw⟩
  rw [hw]
  clear hw w2
  go_wp2
  go_ret
  exact ⟨rfl, B1.out⟩

set_option maxHeartbeats 400000 in
/-- The law at 1 to 18 digits. -/
theorem exact_yes (a : Option Addr) (L C : Nat) (Z : Nat → Int) (w : World) (h1 : 1 ≤ L) (h18 : L ≤ 18) (hn : a = none → L = 0 ∧ C = 0) (hd : ∀ j, j < L → 48 ≤ Z j ∧ Z j ≤ 57) (hr : RowV w a L (fun j => .int .u8 (Z j))) :
    Calls Try.prog 3 #[.slice a L C] w fun e w' => e = .returned (.bool true) ∧ Below w.heap.size w w' := by
  have HR := hide hr
  have HN := hide hn
  have HD := hide hd
  clear hr hn hd
  obtain ⟨v1, v2⟩ := val_bounds Z L HD.out
  have p2 := pow10_18 L h18
  have HP := hide (fun j (hj : j < L) => pad_val Z L HD.out j hj)
  go_enter Try.func3, Try.ntmps3
  go_wp2_with fail
  refine (bytes9_any a L C _).mono ?_
  rintro e w1 ⟨⟨r, rfl⟩, hw1⟩
  rw [hw1]
  clear hw1 w1
  cases r
  · go_wp2
    go_ret
    exact ⟨rfl, Below.refl _ _⟩
  go_wp2_with fail
  refine (cloneBytes_any a L C Z _ (by omega) HN.out HR.out).mono ?_
  rintro e w1 ⟨a', C', rfl, hr1, hb1⟩
  have R1 := hide hr1
  have B1 := hide hb1
  clear hr1 hb1
  go_wp2_with fail
  refine (zzdigits a' L C' _ _ _ (digits_yes a' L C' Z _ h1 h18 HD.out R1.out)).mono ?_
  rintro e w2 ⟨rfl, hw⟩
  rw [hw]
  clear hw w2
  go_wp2_with fail
  refine (isText_yes a' L C' Z _ h1 h18 HD.out R1.out).mono ?_
  rintro e w2 ⟨rfl, hw⟩
  rw [hw]
  clear hw w2
  go_wp2_with fail
  refine (pow_any L h18 _).mono ?_
  rintro e w2 ⟨rfl, hw⟩
  rw [hw]
  clear hw w2
  go_wp2_with fail
  refine (pad_any (val Z L) L h1 h18 v1 (by omega) _).mono ?_
  rintro e w2 ⟨rfl, hrow, hb2⟩
  have R2 := hide (hrow.congr (g := fun j => .int .u8 (Z j)) (fun j hj => by simp only [HP.out j hj]))
  have B2 := hide hb2
  clear hrow hb2
  go_wp2_with fail
  refine (same_yes (some ⟨w1.heap.size, 0, none⟩) a' L L C' Z _ (by omega) (.inr ⟨w1.heap.size, 0, rfl, R2.out.lt, fun j hj => by rw [Nat.zero_add]; exact R2.out.cell hj⟩) (R1.out.below B2.out)).mono ?_
  rintro e w3 ⟨rfl, q, rfl⟩
  go_wp2
  go_ret
  exact ⟨rfl, bdrewN (B1.out.trans (B2.out.mono B1.out.size)) q⟩

set_option maxHeartbeats 400000 in
/-- The law at more than zzCap bytes. -/
theorem exact_big (a : Option Addr) (L C : Nat) (w : World) (hL : 1048576 < L) :
    Calls Try.prog 3 #[.slice a L C] w fun e w' => e = .returned (.bool true) ∧ Below w.heap.size w w' := by
  go_enter Try.func3, Try.ntmps3
  go_wp2_with fail
  refine (bytes9_any a L C _).mono ?_
  rintro e w1 ⟨⟨r, rfl⟩, hw1⟩
  rw [hw1]
  clear hw1 w1
  cases r
  · go_wp2
    go_ret
    exact ⟨rfl, Below.refl _ _⟩
  · go_wp2
    go_ret
    exact ⟨rfl, Below.refl _ _⟩

theorem exact_any (a : Option Addr) (L C : Nat) (Z : Nat → Int) (w : World) (hn : a = none → L = 0 ∧ C = 0) (hz : ∀ j, j < L → 0 ≤ Z j ∧ Z j ≤ 255) (hr : RowV w a L (fun j => .int .u8 (Z j))) :
    Calls Try.prog 3 #[.slice a L C] w fun e w' => e = .returned (.bool true) ∧ Below w.heap.size w w' := by
  rcases Nat.lt_or_ge 1048576 L with hL | hL
  · exact exact_big a L C w hL
  by_cases hlen : L = 0 ∨ 18 < L
  · exact exact_no a L C Z w hL hn hr (fun a' C' w' _ => digits_len a' L C' w' hlen) (fun a' C' w' _ => isText_len a' L C' w' hlen)
  rcases first_bad Z L with hd | ⟨m, hm, hd, hbad⟩
  · exact exact_yes a L C Z w (by omega) (by omega) hn hd hr
  · exact exact_no a L C Z w hL hn hr (fun a' C' w' hr' => digits_no a' L C' Z w' (by omega) (by omega) m hm hd hbad hz hr') (fun a' C' w' hr' => isText_no a' L C' Z w' (by omega) (by omega) m hm hd hbad hr')

end Go.Proofs.Qxb6604025a
