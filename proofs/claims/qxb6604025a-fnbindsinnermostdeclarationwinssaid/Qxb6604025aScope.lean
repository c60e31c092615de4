import Derived.Test.Qxb6604025aBase
import Derived.Deep.LoopGhost
import Derived.Deep.RegionWith
namespace Go.Proofs.Qxb6604025a
open Go.RowKit

/-- A scope: its declarations, the innermost first. -/
def Chain (w : World) : Option Addr → List (ByteArray × ByteArray) → Prop
  | a, [] => a = none
  | a, d :: r => ∃ b a', a = some ⟨b, 0, none⟩ ∧ b < w.heap.size ∧ w.cell? ⟨b, 0, none⟩ = some (.string d.1) ∧ w.cell? ⟨b, 1, none⟩ = some (.string d.2) ∧ w.cell? ⟨b, 2, none⟩ = some (.pointer a') ∧ Chain w a' r

theorem Chain.below {w w' : World} (hb : Below w.heap.size w w') : ∀ {a : Option Addr} {l : List (ByteArray × ByteArray)}, Chain w a l → Chain w' a l
  | _, [], h => h
  | _, _ :: _, ⟨b, a', ha, hl, c0, c1, c2, hr⟩ => ⟨b, a', ha, Nat.lt_of_lt_of_le hl hb.size, (hb.cell (p := ⟨b, 0, none⟩) hl).trans c0, (hb.cell (p := ⟨b, 1, none⟩) hl).trans c1, (hb.cell (p := ⟨b, 2, none⟩) hl).trans c2, Chain.below hb hr⟩

/-- What binds answers. -/
def bindsL (p n : ByteArray) : List (ByteArray × ByteArray) → Bool
  | [] => false
  | d :: r => if d.1.toList == p.toList then d.2.toList == n.toList else bindsL p n r

set_option maxHeartbeats 400000 in
/-- (*scope).binds -/
theorem binds_any (p n : ByteArray) (l : List (ByteArray × ByteArray)) (a : Option Addr) (w : World) (hc : Chain w a l) :
    Calls Try.prog 34 #[.pointer a, .string p, .string n] w fun e w' => e = .returned (.bool (bindsL p n l)) ∧ w' = w := by
  have HC := hide hc
  clear hc
  go_enter Try.func34, Try.ntmps34
  go_wp2
  go_loopg [0] l.length (fun k s wr => ∃ a r, s = .pointer a ∧ r.length = k ∧ bindsL p n r = bindsL p n l ∧ Chain w a r ∧ wr = w)
  case atStart => exact ⟨a, l, rfl, rfl, rfl, HC.out, rfl⟩
  case round =>
    obtain ⟨a, r, rfl, hk, hbl, hc, rfl⟩ := hrel
    cases r with
    | nil =>
      obtain rfl : a = none := hc
      have HB := hide hbl
      clear hbl
      go_wp2
      go_ret
      exact ⟨by rw [← HB.out]; rfl, rfl⟩
    | cons d r =>
      obtain ⟨b, a', rfl, hl, c0, c1, c2, hr⟩ := hc
      have HR := hide hr
      have HB := hide hbl
      have HK := hide hk
      clear hr hbl hk
      go_wp2
      · rename_i hx
        go_ret
        refine ⟨?_, rfl⟩
        rw [← HB.out]
        simp [bindsL, hx]
      · rename_i hx
        go_roundg r.length
        case measure => have := HK.out; simp at this; omega
        case rel =>
          refine ⟨a', r, rfl, rfl, ?_, HR.out, rfl⟩
          rw [← HB.out]
          simp [bindsL, hx]

set_option maxHeartbeats 400000 in
/-- ZZBinds -/
theorem zzbinds_any (p n : ByteArray) (l : List (ByteArray × ByteArray)) (a : Option Addr) (w : World) (hc : Chain w a l) :
    Calls Try.prog 20 #[.pointer a, .string p, .string n] w fun e w' => e = .returned (.bool (bindsL p n l)) ∧ w' = w := by
  have HC := hide hc
  clear hc
  go_enter Try.func20, Try.ntmps20
  go_wp2_with fail
  refine (binds_any p n l a _ HC.out).mono ?_
  rintro e w1 ⟨rfl, hw⟩
  rw [hw]
  clear hw w1
  go_wp2
  go_ret
  exact ⟨rfl, rfl⟩

set_option maxHeartbeats 400000 in
/-- ZZNewScope -/
theorem newScope_any (p n : ByteArray) (l : List (ByteArray × ByteArray)) (a : Option Addr) (w : World) (hc : Chain w a l) :
    Calls Try.prog 23 #[.string p, .string n, .pointer a] w fun e w' => ∃ a', e = .returned (.pointer a') ∧ Chain w' a' ((p, n) :: l) ∧ Below w.heap.size w w' := by
  have HC := hide hc
  clear hc
  go_enter Try.func23, Try.ntmps23
  go_wp2
  go_ret
  have hb := (Below.refl w.heap.size w).alloc (Nat.le_refl _) (.cells #[.string p, .string n, .pointer a] 54)
  exact ⟨_, rfl, ⟨w.heap.size, a, rfl, by simp, by simp, by simp, by simp, Chain.below hb HC.out⟩, hb⟩

/-- The declarations as they lie: two strings each. -/
def Decls (w : World) (a : Option Addr) (n : Nat) (Pf Ns : Nat → ByteArray) : Prop :=
  n = 0 ∨ ∃ b o, a = some ⟨b, o, none⟩ ∧ b < w.heap.size ∧ ∀ i, i < n → w.cell? ⟨b, o + i * 2, none⟩ = some (.string (Pf i)) ∧ w.cell? ⟨b, o + i * 2 + 1, none⟩ = some (.string (Ns i))

theorem Decls.below {w w' : World} {a : Option Addr} {n : Nat} {Pf Ns : Nat → ByteArray} (h : Decls w a n Pf Ns) (hb : Below w.heap.size w w') : Decls w' a n Pf Ns := by
  rcases h with h | ⟨b, o, ha, hl, hc⟩
  · exact .inl h
  · exact .inr ⟨b, o, ha, Nat.lt_of_lt_of_le hl hb.size, fun i hi => ⟨(hb.cell (p := ⟨b, o + i * 2, none⟩) hl).trans (hc i hi).1, (hb.cell (p := ⟨b, o + i * 2 + 1, none⟩) hl).trans (hc i hi).2⟩⟩

/-- The last m declarations of n. -/
def lastL (n : Nat) (Pf Ns : Nat → ByteArray) : Nat → List (ByteArray × ByteArray)
  | 0 => []
  | m + 1 => (Pf (n - 1 - m), Ns (n - 1 - m)) :: lastL n Pf Ns m

set_option maxHeartbeats 400000 in
/-- zzBuildScope -/
theorem build_any (a : Option Addr) (n C : Nat) (Pf Ns : Nat → ByteArray) (w : World) (hn : n ≤ 1048576) (hD : Decls w a n Pf Ns) :
    Calls Try.prog 19 #[.slice a n C] w fun e w' => ∃ s, e = .returned (.pointer s) ∧ Chain w' s (lastL n Pf Ns n) ∧ Below w.heap.size w w' := by
  have HD := hide hD
  clear hD
  go_enter Try.func19, Try.ntmps19
  go_wp2
  go_loopw [3, 4] (fun s i wr => ∃ (m : Nat) (x : Option Addr), m ≤ n ∧ i = .int .i64 (n - 1 - m) ∧ s = .pointer x ∧ Chain wr x (lastL n Pf Ns m) ∧ Below w.heap.size w wr) (fun _ i _ => (intOf i + 1).toNat)
  case atStart => exact ⟨0, none, Nat.zero_le _, by simp, rfl, rfl, Below.refl _ _⟩
  case round =>
    obtain ⟨m, x, hm, rfl, rfl, hc, hb⟩ := hrel
    have HC := hide hc
    have HB := hide hb
    clear hc hb
    by_cases hlt : m < n
    · rcases (HD.out.below HB.out) with h0 | ⟨b, o, rfl, hl, hcc⟩
      · omega
      obtain ⟨c0, c1⟩ := hcc (n - 1 - m) (by omega)
      clear hcc
      go_wp2
      go_region_with (go_at_call 23; refine (newScope_any (Pf (n - 1 - m)) (Ns (n - 1 - m)) (lastL n Pf Ns m) x _ (by exact Chain.below ((Below.refl _ _).drew) HC.out)).mono ?_; rintro e w1 ⟨x1, rfl, hc1, hb1⟩; have HC1 := hide hc1; have HB1 := hide hb1; clear hc1 hb1)
      all_goals
        go_wp2
        go_roundw
        case rel => exact ⟨m + 1, x1, by omega, by go_num, rfl, HC1.out, HB.out.drew.trans (HB1.out.mono HB.out.size)⟩
        case measure => simp [intOf]; omega
    · obtain rfl : m = n := by omega
      go_wp2
      go_ret
      exact ⟨x, rfl, HC.out, HB.out⟩

/-- What zzModelBinds holds after m rounds. -/
def modelB (n : Nat) (Pf Ns : Nat → ByteArray) (p : ByteArray) : Nat → Bool × ByteArray
  | 0 => (false, ⟨#[]⟩)
  | m + 1 => if (Pf (n - 1 - m)).toList == p.toList then (true, Ns (n - 1 - m)) else modelB n Pf Ns p m

theorem modelB_binds (n : Nat) (Pf Ns : Nat → ByteArray) (p s : ByteArray) : ∀ m, ((modelB n Pf Ns p m).1 && (modelB n Pf Ns p m).2.toList == s.toList) = bindsL p s (lastL n Pf Ns m)
  | 0 => rfl
  | m + 1 => by
    simp only [modelB, lastL, bindsL]
    split
    · simp
    · exact modelB_binds n Pf Ns p s m

set_option maxHeartbeats 400000 in
/-- zzModelBinds -/
theorem model_any (a : Option Addr) (n C : Nat) (Pf Ns : Nat → ByteArray) (p s : ByteArray) (w : World) (hn : n ≤ 1048576) (hD : Decls w a n Pf Ns) :
    Calls Try.prog 21 #[.slice a n C, .string p, .string s] w fun e w' => e = .returned (.bool (bindsL p s (lastL n Pf Ns n))) ∧ w' = w := by
  have HD := hide hD
  have HM := hide (modelB_binds n Pf Ns p s n)
  clear hD
  go_enter Try.func21, Try.ntmps21
  go_wp2
  go_loop [7, 8, 9] (fun bd ns i => ∃ (m : Nat), m ≤ n ∧ i = .int .i64 (n - 1 - m) ∧ bd = .bool (modelB n Pf Ns p m).1 ∧ ns = .string (modelB n Pf Ns p m).2) (fun _ _ i => (intOf i + 1).toNat)
  case atStart => exact ⟨0, Nat.zero_le _, by simp, rfl, rfl⟩
  case round =>
    obtain ⟨m, hm, rfl, rfl, rfl⟩ := hrel
    have HE : Hid (modelB n Pf Ns p (m + 1) = if (Pf (n - 1 - m)).toList == p.toList then (true, Ns (n - 1 - m)) else modelB n Pf Ns p m) := rfl
    by_cases hlt : m < n
    · rcases HD.out with h0 | ⟨b, o, rfl, hl, hcc⟩
      · omega
      obtain ⟨c0, c1⟩ := hcc (n - 1 - m) (by omega)
      clear hcc
      generalize modelB n Pf Ns p m = mb at *
      cases hx : ((Pf (n - 1 - m)).toList == p.toList)
      · go_wp2
        go_round
        case rel => exact ⟨m + 1, by omega, by go_num, by rw [HE.out, hx]; rfl, by rw [HE.out, hx]; rfl⟩
        case measure => simp [intOf]; omega
      · go_wp2
        go_round
        case rel => exact ⟨m + 1, by omega, by go_num, by rw [HE.out, hx]; rfl, by rw [HE.out, hx]; rfl⟩
        case measure => simp [intOf]; omega
    · obtain rfl : m = n := by omega
      clear HE
      generalize modelB m Pf Ns p m = mb at *
      obtain ⟨b0, s0⟩ := mb
      cases b0
      · go_wp2
        go_ret
        exact ⟨by rw [← HM.out]; rfl, rfl⟩
      · go_wp2
        go_ret
        exact ⟨by rw [← HM.out]; simp, rfl⟩

end Go.Proofs.Qxb6604025a
