import Derived.Test.Qxb6604010aBase
namespace Go.Proofs.Qxb6604010a
open Go.RowKit

theorem hide {p : Prop} (h : p) : Hid p := h

theorem Row.below {w w' : World} {a : Option Addr} {L : Nat} {Z : Nat → Int} (h : Row w a L Z) (hb : Below w.heap.size w w') : Row w' a L Z := by
  rcases h with h | ⟨b, o, ha, hl, hc⟩
  · exact .inl h
  · exact .inr ⟨b, o, ha, Nat.lt_of_lt_of_le hl hb.size, fun j hj => (hb.cell (p := ⟨b, o + j, none⟩) hl).trans (hc j hj)⟩

theorem NewRow.row {B : Nat} {w : World} {a : Option Addr} {L : Nat} {Z : Nat → Int} (h : NewRow B w a L Z) : Row w a L Z := by
  rcases h with h | ⟨b, t, ha, _, hr⟩
  · exact .inl h
  · exact .inr ⟨b, 0, ha, hr.lt, fun j hj => by rw [Nat.zero_add]; exact hr.cell hj⟩

set_option maxHeartbeats 400000 in
/-- zzEqualInt32s of two rows of the same numbers. -/
theorem equal_same (a a' : Option Addr) (L C C' : Nat) (Z : Nat → Int) (w : World) (hL : L ≤ 1048576) (h1 : Row w a L Z) (h2 : Row w a' L Z) :
    Calls Try.prog 18 #[.slice a L C, .slice a' L C'] w fun e w' => e = .returned (.bool true) ∧ ∃ q, w' = w.drewN q := by
  go_enter Try.func18, Try.ntmps18
  go_wp2
  go_loopw [5] (fun i wr => ∃ k : Nat, k ≤ L ∧ i = .int .i64 k ∧ ∃ q, wr = w.drewN q) (fun i _ => L - (intOf i).toNat)
  case atStart => exact ⟨0, Nat.zero_le _, rfl, 0, rfl⟩
  case round =>
    obtain ⟨k, hk, rfl, q, rfl⟩ := hrel
    by_cases hlt : k < L
    · rcases h1 with rfl | ⟨b, o, rfl, hlb, hc⟩
      · omega
      rcases h2 with rfl | ⟨b', o', rfl, hlb', hc'⟩
      · omega
      have c1 := hc k hlt
      have c2 := hc' k hlt
      clear hc hc'
      go_wp2
      go_quiet (fail)
      go_wp2
      go_roundw
      case rel => exact ⟨k + 1, by omega, by go_num, _, rfl⟩
      case measure => simp [intOf]; omega
    · go_wp2
      go_ret
      exact ⟨rfl, q, rfl⟩

theorem ret_int {k : IntKind} {a b : Int} (h : a = b) : Ending.returned (.int k a) = .returned (.int k b) := by rw [h]

/-- A callee that only reads, met behind draws. -/
theorem quiet_at {P : Program} {f : FuncId} {args : Array Value} {w : World} {q n : Nat} {v : Value}
    (h : Calls P f args (w.drewN (q + n)) fun e w' => e = .returned v ∧ ∃ m, w' = (w.drewN (q + n)).drewN m) : Calls P f args (w.drewN (q + n)) fun e w'' => e = .returned v ∧ ∃ m, w'' = w.drewN (q + m) :=
  h.mono fun _ _ ⟨he, m, hm⟩ => ⟨he, n + m, by rw [hm, World.drewN_drewN, Nat.add_assoc]⟩

/-- The facts: n slices of int32s in a row of slices. -/
def Facts (w : World) (bf fo n : Nat) (A : Nat → Option Addr) (L C : Nat → Nat) (Z : Nat → Nat → Int) : Prop :=
  bf < w.heap.size ∧ ∀ r, r < n → w.cell? ⟨bf, fo + r, none⟩ = some (.slice (A r) (L r) (C r)) ∧ Row w (A r) (L r) (Z r)

theorem Facts.below {w w' : World} {bf fo n : Nat} {A : Nat → Option Addr} {L C : Nat → Nat} {Z : Nat → Nat → Int} (h : Facts w bf fo n A L C Z) (hb : Below w.heap.size w w') : Facts w' bf fo n A L C Z :=
  ⟨Nat.lt_of_lt_of_le h.1 hb.size, fun r hr => ⟨(hb.cell (p := ⟨bf, fo + r, none⟩) h.1).trans (h.2 r hr).1, (h.2 r hr).2.below hb⟩⟩

theorem Facts.le {w : World} {bf fo n m : Nat} {A : Nat → Option Addr} {L C : Nat → Nat} {Z : Nat → Nat → Int} (h : Facts w bf fo n A L C Z) (hm : m ≤ n) : Facts w bf fo m A L C Z :=
  ⟨h.1, fun r hr => h.2 r (by omega)⟩

theorem Facts.drewN {w : World} {bf fo n : Nat} {A : Nat → Option Addr} {L C : Nat → Nat} {Z : Nat → Nat → Int} (h : Facts w bf fo n A L C Z) (q : Nat) : Facts (w.drewN q) bf fo n A L C Z := h

/-- A fact that is not empty, at a place. -/
theorem Facts.at {w : World} {bf fo n : Nat} {A : Nat → Option Addr} {L C : Nat → Nat} {Z : Nat → Nat → Int} (h : Facts w bf fo n A L C Z) {r : Nat} (hr : r < n) (hl : 0 < L r) :
    ∃ b o, b < w.heap.size ∧ w.cell? ⟨bf, fo + r, none⟩ = some (.slice (some ⟨b, o, none⟩) (L r) (C r)) ∧ ∀ j, j < L r → w.cell? ⟨b, o + j, none⟩ = some (.int .i32 (Z r j)) := by
  obtain ⟨c1, h0 | ⟨b, o, ha, hlb, hc⟩⟩ := h.2 r hr
  · omega
  · exact ⟨b, o, hlb, by rw [c1, ha], hc⟩

set_option maxHeartbeats 400000 in
/-- zzLeastAgreeing: the least place. -/
theorem least_any (bf fo n Cf : Nat) (A : Nat → Option Addr) (L C : Nat → Nat) (Z : Nat → Nat → Int) (p : Nat) (w : World) (hn : n ≤ 1048576) (hp : p < 1048576) (hl : ∀ r, r < n → p < L r) (hF : Facts w bf fo n A L C Z) :
    Calls Try.prog 21 #[.slice (some ⟨bf, fo, none⟩) n Cf, .int .i64 p] w fun e w' => e = .returned (.int .i64 (la n Z p)) ∧ ∃ q, w' = w.drewN q := by
  go_enter Try.func21, Try.ntmps21
  go_wp2
  go_loopw [5] (fun i wr => ∃ k : Nat, k ≤ p ∧ i = .int .i64 k ∧ (∀ c, c < k → agree n Z c p = false) ∧ ∃ q, wr = w.drewN q) (fun i _ => p - (intOf i).toNat)
  case atStart => exact ⟨0, Nat.zero_le _, rfl, fun c hc => absurd hc (Nat.not_lt_zero _), 0, rfl⟩
  case round =>
    obtain ⟨k, hk, rfl, hno, q, rfl⟩ := hrel
    have HN : Hid (∀ c, c < k → agree n Z c p = false) := hno
    clear hno
    by_cases hlt : k < p
    · go_wp2
      go_loopw [6, 7] (fun al i wr => ∃ m : Nat, m ≤ n ∧ i = .int .i64 m ∧ al = .bool true ∧ (∀ i, i < m → Z i k = Z i p) ∧ ∃ q, wr = w.drewN q) (fun _ i _ => n - (intOf i).toNat)
      case atStart => exact ⟨0, Nat.zero_le _, rfl, rfl, fun c hc => absurd hc (Nat.not_lt_zero _), q, rfl⟩
      case round =>
        obtain ⟨m, hm, rfl, rfl, hag, q2, rfl⟩ := hrel
        have HA : Hid (∀ i, i < m → Z i k = Z i p) := hag
        clear hag
        by_cases hmn : m < n
        · obtain ⟨c1, hr⟩ := hF.2 m hmn
          have hlm := hl m hmn
          clear hF hl
          rcases hr with h0 | ⟨b, o, ha, hlb, hc⟩
          · omega
          rw [ha] at c1
          have c2 := hc k (by omega)
          have c3 := hc p (by omega)
          clear hc ha
          go_wp2
          go_quiet (fail)
          go_wp2
          · rename_i hd
            have hne : Z m k ≠ Z m p := by simpa using hd
            go_roundw
            case rel =>
              refine ⟨k + 1, by omega, by go_num, fun c hc => ?_, _, rfl⟩
              rcases Nat.lt_succ_iff_lt_or_eq.1 hc with h | h
              · exact HN.out c h
              · subst h
                cases hag : agree n Z c p
                · rfl
                · exact absurd (agree_iff.1 hag m hmn) hne
            case measure => simp [intOf]; omega
          · rename_i hd
            have heq : Z m k = Z m p := by simpa using hd
            go_roundw
            case rel =>
              refine ⟨m + 1, by omega, by go_num, rfl, fun i hi => ?_, _, rfl⟩
              rcases Nat.lt_succ_iff_lt_or_eq.1 hi with h | h
              · exact HA.out i h
              · subst h; exact heq
            case measure => simp [intOf]; omega
        · have hmn' : m = n := by omega
          subst hmn'
          go_wp2
          go_ret
          exact ⟨ret_int (la_hit hlt HA.out HN.out), _, rfl⟩
    · have hkp : k = p := by omega
      subst hkp
      go_wp2
      go_ret
      exact ⟨ret_int (la_none HN.out), _, rfl⟩

end Go.Proofs.Qxb6604010a
