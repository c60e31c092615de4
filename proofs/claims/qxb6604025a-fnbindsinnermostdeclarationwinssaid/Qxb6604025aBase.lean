import Derived.Test.Qxb6604025aRows
import Derived.Test.Qxb6604025aPlain
import Derived.WalkKit
import Derived.WalkSpells
import Derived.WalkLawsBesides
import Derived.Deep.OwnRows
import Derived.Deep.QuietTactic
import Derived.BigQuiet
namespace Go.Proofs.Qxb6604025a
open Go.RowKit

theorem info5 : (Try.prog.info? 5).map (fun i => (i.zero, i.size, i.bytes)) = some (some (.int .u8 0), 1, 1) := by kernel_rfl

theorem hide {p : Prop} (h : p) : Hid p := h
theorem ret_int {k : IntKind} {a b : Int} (h : a = b) : Ending.returned (.int k a) = .returned (.int k b) := by rw [h]

/-- A slice of one-cell elements that is read. -/
def RowV (w : World) (a : Option Addr) (L : Nat) (G : Nat → Value) : Prop :=
  L = 0 ∨ ∃ b o, a = some ⟨b, o, none⟩ ∧ b < w.heap.size ∧ ∀ j, j < L → w.cell? ⟨b, o + j, none⟩ = some (G j)

theorem RowV.below {w w' : World} {a : Option Addr} {L : Nat} {G : Nat → Value} (h : RowV w a L G) (hb : Below w.heap.size w w') : RowV w' a L G := by
  rcases h with h | ⟨b, o, ha, hl, hc⟩
  · exact .inl h
  · exact .inr ⟨b, o, ha, Nat.lt_of_lt_of_le hl hb.size, fun j hj => (hb.cell (p := ⟨b, o + j, none⟩) hl).trans (hc j hj)⟩

theorem RowV.congr {w : World} {a : Option Addr} {L : Nat} {G G' : Nat → Value} (h : RowV w a L G) (e : ∀ j, j < L → G j = G' j) : RowV w a L G' := by
  rcases h with h | ⟨b, o, ha, hl, hc⟩
  · exact .inl h
  · exact .inr ⟨b, o, ha, hl, fun j hj => by rw [← e j hj]; exact hc j hj⟩

theorem bdrewN {B : Nat} {a w : World} (h : Below B a w) (q : Nat) : Below B a (w.drewN q) := ⟨h.os, h.tape, h.output, h.size, h.block⟩

set_option maxHeartbeats 400000 in
/-- zzPow10 -/
theorem pow_any (W : Nat) (hW : W ≤ 18) (w : World) :
    Calls Try.prog 13 #[.int .i64 W] w fun e w' => e = .returned (.int .u64 (pow10 W)) ∧ w' = w := by
  go_enter Try.func13, Try.ntmps13
  go_wp2
  go_loop [3, 4] (fun p i => ∃ k : Nat, k ≤ W ∧ i = .int .i64 k ∧ p = .int .u64 (pow10 k)) (fun _ i => W - (intOf i).toNat)
  case atStart => exact ⟨0, Nat.zero_le _, rfl, rfl⟩
  case round =>
    obtain ⟨k, hk, rfl, rfl⟩ := hrel
    have HE : Hid (pow10 (k + 1) = pow10 k * 10) := rfl
    by_cases hlt : k < W
    · have b1 := pow10_pos k
      have b2 := pow10_17 k (by omega)
      generalize pow10 k = p at *
      go_wp2
      go_round
      case rel => exact ⟨k + 1, by omega, by go_num, by rw [HE.out]⟩
      case measure => simp [intOf]; omega
    · obtain rfl : k = W := by omega
      go_wp2
      go_ret
      exact ⟨rfl, rfl⟩

set_option maxHeartbeats 400000 in
/-- zzPadDecimal -/
theorem pad_any (n : Int) (W : Nat) (h1 : 1 ≤ W) (hW : W ≤ 18) (hn0 : 0 ≤ n) (hn : n ≤ 18446744073709551615) (w : World) :
    Calls Try.prog 15 #[.int .u64 n, .int .i64 W] w fun e w' => e = .returned (.slice (some ⟨w.heap.size, 0, none⟩) W W) ∧ w'.rowIs w.heap.size 5 W (fun j => .int .u8 (pad n W j)) ∧ Below w.heap.size w w' := by
  have hmk := run_make_row' (P := Try.prog) 22 5 (.int .u8 0) 1 Try.underlying22 info5 rfl .i64 .i64 W (by omega) (by omega)
  go_enter Try.func15, Try.ntmps15
  go_wp2
  go_loopw [0, 6] (fun c i wr => ∃ m : Nat, m ≤ W ∧ i = .int .i64 (W - 1 - m) ∧ c = .int .u64 (n / pow10 m) ∧ wr.rowIs w.heap.size 5 W (fun j => .int .u8 (if W ≤ j + m then pad n W j else 0)) ∧ Below w.heap.size w wr) (fun _ i _ => (intOf i + 1).toNat)
  case atStart => exact ⟨0, Nat.zero_le _, by simp, by simp [pow10], (World.rowIs_made _ _ _ _).congr (fun j hj => by simp [show ¬ W ≤ j by omega]), (Below.refl _ _).alloc (Nat.le_refl _) _⟩
  case round =>
    obtain ⟨m, hm, rfl, rfl, hrow, hb⟩ := hrel
    have b1 : 0 ≤ n / pow10 m := Int.ediv_nonneg hn0 (by have := pow10_pos m; omega)
    have b2 : n / pow10 m ≤ n := Int.ediv_le_self _ hn0
    by_cases hlt : m < W
    · have HE : Hid (n / pow10 (m + 1) = n / pow10 m / 10) := (ediv_pow n m).symm
      have HP : Hid (pad n W (W - 1 - m) = 48 + n / pow10 m % 10) := by show _ = _; unfold pad; rw [show W - 1 - (W - 1 - m) = m by omega]
      have f1 := hrow.frozen (W - 1 - m)
      have f2 := hrow.cell (i := W - 1 - m) (by omega)
      have HR := hide hrow
      have HB := hide hb
      clear hrow hb
      generalize n / pow10 m = c at *
      go_wp2
      go_roundw
      case rel =>
        refine ⟨m + 1, by omega, by go_num, by rw [HE.out], (HR.out.set _ _).congr (fun j hj => ?_), HB.out.setCell (by simp) _⟩
        by_cases e : j = W - 1 - m
        · subst e
          simp only [if_true]
          rw [if_pos (by omega), HP.out]
        · simp only [e, if_false]
          by_cases h2 : W ≤ j + m
          · rw [if_pos h2, if_pos (by omega)]
          · rw [if_neg h2, if_neg (by omega)]
      case measure => simp [intOf]; omega
    · obtain rfl : m = W := by omega
      go_wp2
      go_ret
      exact ⟨rfl, hrow.congr (fun j hj => by simp), hb⟩

set_option maxHeartbeats 400000 in
/-- digits of 1 to 18 digits. -/
theorem digits_yes (a : Option Addr) (L C : Nat) (Z : Nat → Int) (w : World) (h1 : 1 ≤ L) (h18 : L ≤ 18) (hd : ∀ j, j < L → 48 ≤ Z j ∧ Z j ≤ 57) (hr : RowV w a L (fun j => .int .u8 (Z j))) :
    Calls Try.prog 33 #[.slice a L C] w fun e w' => e = .returned (.tuple #[.int .u64 (val Z L), .bool true]) ∧ w' = w := by
  rcases hr with h0 | ⟨b, o, rfl, hlb, hc⟩
  · omega
  have HD := hide hd
  have HC := hide hc
  clear hd hc
  have hz : ((L : Int) == 0) = false := beq_eq_false_iff_ne.2 (by omega)
  go_enter Try.func33, Try.ntmps33
  go_wp2
  go_loop [4, 17] (fun n i => ∃ k : Nat, k ≤ L ∧ i = .int .i64 k ∧ n = .int .u64 (val Z k)) (fun _ i => L - (intOf i).toNat)
  case atStart => exact ⟨0, Nat.zero_le _, rfl, rfl⟩
  case round =>
    obtain ⟨k, hk, rfl, rfl⟩ := hrel
    by_cases hlt : k < L
    · have hb := val_bounds Z k (fun j hj => HD.out j (by omega))
      have hp := pow10_17 k (by omega)
      have hv0 : 0 ≤ val Z k := hb.1
      have hv1 : val Z k ≤ 99999999999999999 := by have := hb.2; omega
      have HE : Hid (val Z (k + 1) = val Z k * 10 + (Z k - 48)) := rfl
      have c1 := HC.out k hlt
      obtain ⟨z1, z2⟩ := HD.out k hlt
      clear hb hp
      generalize val Z k = v at *
      generalize Z k = z at *
      go_wp2
      go_round
      case rel => exact ⟨k + 1, by omega, by go_num, by rw [HE.out]⟩
      case measure => simp [intOf]; omega
    · obtain rfl : k = L := by omega
      go_wp2
      go_ret2
      exact ⟨rfl, rfl⟩

set_option maxHeartbeats 400000 in
/-- digits of too few or too many bytes. -/
theorem digits_len (a : Option Addr) (L C : Nat) (w : World) (h : L = 0 ∨ 18 < L) :
    Calls Try.prog 33 #[.slice a L C] w fun e w' => e = .returned (.tuple #[.int .u64 0, .bool false]) ∧ w' = w := by
  rcases h with rfl | h
  · go_enter Try.func33, Try.ntmps33
    go_wp2
    go_ret2
    exact ⟨rfl, rfl⟩
  · have hz : ((L : Int) == 0) = false := beq_eq_false_iff_ne.2 (by omega)
    go_enter Try.func33, Try.ntmps33
    go_wp2
    go_ret2
    exact ⟨rfl, rfl⟩

set_option maxHeartbeats 400000 in
/-- digits where some byte is no digit. -/
theorem digits_no (a : Option Addr) (L C : Nat) (Z : Nat → Int) (w : World) (h1 : 1 ≤ L) (h18 : L ≤ 18) (m : Nat) (hm : m < L) (hd : ∀ j, j < m → 48 ≤ Z j ∧ Z j ≤ 57) (hbad : Z m < 48 ∨ 57 < Z m) (hb0 : ∀ j, j < L → 0 ≤ Z j ∧ Z j ≤ 255) (hr : RowV w a L (fun j => .int .u8 (Z j))) :
    Calls Try.prog 33 #[.slice a L C] w fun e w' => e = .returned (.tuple #[.int .u64 0, .bool false]) ∧ w' = w := by
  rcases hr with h0 | ⟨b, o, rfl, hlb, hc⟩
  · omega
  have HD := hide hd
  have HC := hide hc
  have HB := hide hb0
  have HX := hide hbad
  clear hd hc hb0 hbad
  have hz : ((L : Int) == 0) = false := beq_eq_false_iff_ne.2 (by omega)
  go_enter Try.func33, Try.ntmps33
  go_wp2
  go_loop [4, 17] (fun n i => ∃ k : Nat, k ≤ m ∧ i = .int .i64 k ∧ n = .int .u64 (val Z k)) (fun _ i => m - (intOf i).toNat)
  case atStart => exact ⟨0, Nat.zero_le _, rfl, rfl⟩
  case round =>
    obtain ⟨k, hk, rfl, rfl⟩ := hrel
    by_cases hlt : k < m
    · have hb := val_bounds Z k (fun j hj => HD.out j (by omega))
      have hp := pow10_17 k (by omega)
      have hv0 : 0 ≤ val Z k := hb.1
      have hv1 : val Z k ≤ 99999999999999999 := by have := hb.2; omega
      have HE : Hid (val Z (k + 1) = val Z k * 10 + (Z k - 48)) := rfl
      have c1 := HC.out k (by omega)
      obtain ⟨z1, z2⟩ := HD.out k hlt
      clear hb hp
      generalize val Z k = v at *
      generalize Z k = z at *
      go_wp2
      go_round
      case rel => exact ⟨k + 1, by omega, by go_num, by rw [HE.out]⟩
      case measure => simp [intOf]; omega
    · obtain rfl : k = m := by omega
      have c1 := HC.out k hm
      obtain ⟨z1, z2⟩ := HB.out k hm
      rcases HX.out with hx | hx
      · go_wp2
        go_ret2
        exact ⟨rfl, rfl⟩
      · go_wp2
        go_ret2
        exact ⟨rfl, rfl⟩

set_option maxHeartbeats 400000 in
/-- ZZDigits hands on what digits answers. -/
theorem zzdigits (a : Option Addr) (L C : Nat) (n : Int) (b : Bool) (w : World) (h : Calls Try.prog 33 #[.slice a L C] w fun e w' => e = .returned (.tuple #[.int .u64 n, .bool b]) ∧ w' = w) :
    Calls Try.prog 11 #[.slice a L C] w fun e w' => e = .returned (.tuple #[.int .u64 n, .bool b]) ∧ w' = w := by
  have H := hide h
  clear h
  go_enter Try.func11, Try.ntmps11
  go_wp2_with fail
  refine H.out.mono ?_
  rintro e w1 ⟨rfl, hw⟩
  rw [hw]
  clear hw w1
  go_wp2
  go_ret2
  exact ⟨rfl, rfl⟩

end Go.Proofs.Qxb6604025a
