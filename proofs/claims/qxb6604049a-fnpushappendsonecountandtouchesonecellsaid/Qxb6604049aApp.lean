import Derived.Test.Qxb6604049aRuns
namespace Go.Proofs.Qxb6604049a
open Go.RowKit

/-! ### the plain law of one push -/
theorem canR_congr {E E' : Nat → Int} : ∀ (n : Nat), (∀ j, j < n → E' j = E j) → canR E' n = canR E n
  | 0, _ => rfl
  | n + 1, h => by
    rw [canR, canR, canR_congr n (fun j hj => h j (by omega)), h n (by omega)]

theorem appR_one (r : List (Int × Int)) (x : Int) (h0 : 0 ≤ x) (h1 : x ≤ 32766) : appR (appR r 1 x) 1 1 = appR r 1 (x + 1) := by
  have hw : wrap64 (x + 1) = x + 1 := by unfold wrap64; omega
  cases r with
  | nil => rw [show appR [] 1 x = [(1, x)] from rfl, appR_same, hw]; rfl
  | cons p t =>
    obtain ⟨v', k'⟩ := p
    by_cases h : v' = 1
    · subst h
      rw [appR_same, appR_same, appR_same, show wrap64 (wrap64 (k' + x) + 1) = wrap64 (k' + (x + 1)) by unfold wrap64; omega]
    · rw [appR_other h, appR_other h, appR_same, hw]

/-- What the law asks of one push, with no Go in sight. -/
structure Grown (E : Nat → Int) (n c : Nat) (k : Int) (E' : Nat → Int) (n' c' : Nat) : Prop where
  pos : 0 < n'
  cap : n' ≤ 32 + 1024 * c'
  le : c ≤ c'
  le' : c' ≤ c + 1
  valid : ∀ j, j < n' → 2 ≤ E' j ∧ E' j ≤ 65535 ∧ E' j ≠ 32768
  canon : canR E' n' = appR (canR E n) k 1
  frame : ∀ j, j < 32 + 1024 * c' → j ≠ n' - 1 → E' j = if j < 32 + 1024 * c then E j else 0
  num : (joins E n k ∧ n' = n) ∨ (¬ joins E n k ∧ n' = n + 1)
  chunk : (c' = c ∧ ¬ (n' = n + 1 ∧ n = 32 + 1024 * c)) ∨ (c' = c + 1 ∧ n' = n + 1 ∧ n = 32 + 1024 * c)

theorem Pushed.grown {E : Nat → Int} {n c : Nat} {k : Int} {E' : Nat → Int} {n' c' : Nat} (h : Pushed E n c k E' n' c') (hn : n ≤ 32 + 1024 * c) (hk1 : 1 ≤ k) (hk2 : k ≤ 32767) (hv : ∀ j, j < n → 2 ≤ E j ∧ E j ≤ 65535 ∧ E j ≠ 32768) :
    Grown E n c k E' n' c' := by
  rcases h with ⟨⟨hk, hn0, hr, hne⟩, rfl, rfl, hE⟩ | ⟨hj, rfl, rfl, hE⟩
  · obtain ⟨m, rfl⟩ : ∃ m, n' = m + 1 := ⟨n' - 1, by omega⟩
    simp only [Nat.add_sub_cancel] at hr hne hE
    have hm : E' m = E m + 1 := by rw [hE m (by omega)]; unfold upd; rw [if_pos rfl]
    have hlow : ∀ j, j < m → E' j = E j := fun j hj => by rw [hE j (by omega)]; unfold upd; rw [if_neg (by omega)]
    have hvm := hv m (by omega)
    refine ⟨by omega, hn, by omega, by omega, fun j hj => ?_, ?_, fun j hj hne2 => ?_, .inl ⟨⟨hk, hn0, by simpa using hr, by simpa using hne⟩, rfl⟩, .inl ⟨rfl, by omega⟩⟩
    · rcases Nat.lt_or_ge j m with h1 | h1
      · rw [hlow j h1]; exact hv j (by omega)
      · obtain rfl : j = m := by omega
        rw [hm]; omega
    · rw [canR, canR, canR_congr m hlow, hm, if_pos (by omega), if_pos (by omega), hk, appR_one _ _ (by omega) (by omega)]
      congr 1
      omega
    · rw [hE j hj, if_pos hj]; unfold upd; rw [if_neg (by omega)]
  · obtain ⟨g1, g2, g3, _⟩ := newE_small k hk1 hk2
    obtain ⟨c', hc'⟩ : ∃ c', c' = if n = 32 + 1024 * c then c + 1 else c := ⟨_, rfl⟩
    rw [← hc'] at hE ⊢
    have hcc : (c' = c ∧ n ≠ 32 + 1024 * c) ∨ (c' = c + 1 ∧ n = 32 + 1024 * c) := by
      split at hc' <;> omega
    have hlow : ∀ j, j < n → E' j = E j := fun j hj => by
      rw [hE j (by omega)]; unfold upd ext; rw [if_neg (by omega), if_pos (by omega)]
    have hnn : E' n = newE k := by rw [hE n (by omega)]; unfold upd; rw [if_pos rfl]
    refine ⟨by omega, by omega, by omega, by omega, fun j hj2 => ?_, ?_, fun j hj2 hne2 => ?_, .inr ⟨hj, rfl⟩, by omega⟩
    · rcases Nat.lt_or_ge j n with h1 | h1
      · rw [hlow j h1]; exact hv j h1
      · obtain rfl : j = n := by omega
        rw [hnn]; omega
    · rw [canR, canR_congr n hlow, hnn]
      unfold newE
      by_cases hk : k = 1
      · rw [if_pos hk, if_pos (by omega), hk]; rfl
      · rw [if_neg hk, if_neg (by omega)]
    · rw [hE j hj2]; unfold upd; rw [if_neg (by omega)]; rfl

/-! ### the small functions -/
/-- zzValidEntry: no entry. -/
theorem valid_no (e : Int) (h0 : 0 ≤ e) (h3 : e ≤ 65535) (h4 : e < 2 ∨ e = 32768) (w : World) : Calls Try.prog 8 #[.int .u16 e] w fun r w' => r = .returned (.bool false) ∧ w' = w := by
  have b1 := and_run e h0 h3
  have b2 := andNot_run e h0 h3
  by_cases hr : 32768 ≤ e
  · rw [if_pos hr] at b1 b2
    go_enter Try.func8, Try.ntmps8
    go_wp2
    go_ret
    refine ⟨?_, rfl⟩
    simp
    omega
  · rw [if_neg hr] at b1 b2
    go_enter Try.func8, Try.ntmps8
    go_wp2
    go_ret
    refine ⟨?_, rfl⟩
    simp
    try omega

/-- The chunks as they came in. -/
def ChIn (w : World) (a : Option Addr) (c : Nat) (A : Nat → Option Addr) (L C : Nat → Nat) (F : Nat → Nat → Int) : Prop :=
  c = 0 ∨ ∃ b o, a = some ⟨b, o, none⟩ ∧ b < w.heap.size ∧ ∀ i, i < c → w.cell? ⟨b, o + i, none⟩ = some (.slice (A i) (L i) (C i)) ∧
    (L i = 0 ∨ ∃ bi oi, A i = some ⟨bi, oi, none⟩ ∧ bi < w.heap.size ∧ ∀ j, j < L i → w.cell? ⟨bi, oi + j, none⟩ = some (.int .u16 (F i j)))
theorem ChIn.below {w w' : World} {a : Option Addr} {c : Nat} {A : Nat → Option Addr} {L C : Nat → Nat} {F : Nat → Nat → Int} (h : ChIn w a c A L C F) (hb : Below w.heap.size w w') : ChIn w' a c A L C F := by
  rcases h with h | ⟨b, o, ha, hl, hc⟩
  · exact .inl h
  · refine .inr ⟨b, o, ha, Nat.lt_of_lt_of_le hl hb.size, fun i hi => ?_⟩
    obtain ⟨h1, h2⟩ := hc i hi
    refine ⟨(hb.cell (p := ⟨b, o + i, none⟩) hl).trans h1, ?_⟩
    rcases h2 with h2 | ⟨bi, oi, e, hbi, h3⟩
    · exact .inl h2
    · exact .inr ⟨bi, oi, e, Nat.lt_of_lt_of_le hbi hb.size, fun j hj => (hb.cell (p := ⟨bi, oi + j, none⟩) hbi).trans (h3 j hj)⟩

def IsBool (e : Ending) : Prop := ∃ b, e = .returned (.bool b)

set_option maxRecDepth 100000 in
set_option maxHeartbeats 1000000 in
theorem bytes5_any (w : World) (d n k : Int) (cs : List Value) (a : Option Addr) (c cap : Nat) (A : Nat → Option Addr) (L C : Nat → Nat) (F : Nat → Nat → Int) (H : ChIn w a c A L C F) :
    Calls Try.prog 5 #[.int .i64 d, .int .i64 n, .agg cs.toArray, .slice a c cap, .int .i64 k] w fun e w' => IsBool e ∧ Below w.heap.size w w' := by
  have HH := hide H
  clear H
  rcases Nat.lt_or_ge 1048576 c with hbig | hc
  · have h' : (1048576 : Int) < (c : Int) := by omega
    go_enter Try.func5, Try.ntmps5
    go_wp2
    go_ret
    exact ⟨⟨_, rfl⟩, (Below.refl _ _).alloc (Nat.le_refl _) _⟩
  have h' : ¬ (1048576 : Int) < (c : Int) := by omega
  go_enter Try.func5, Try.ntmps5
  go_wp2
  go_loopw [11, 12] (fun z i wr => ∃ (q : Nat) (s : Int), q ≤ c ∧ i = .int .i64 q ∧ z = .int .i64 s ∧ 0 ≤ s ∧ s ≤ 1048576 ∧ Below w.heap.size w wr) (fun _ i _ => c - (intOf i).toNat)
  case atStart => exact ⟨0, c, by omega, rfl, by go_num, by omega, by omega, (Below.refl _ _).alloc (Nat.le_refl _) _⟩
  case round =>
    obtain ⟨q, s, hq, rfl, rfl, hs0, hs1, hb⟩ := hrel
    have HB := hide hb
    clear hb
    rcases Nat.lt_or_ge q c with hlt | hge
    · rcases HH.out.below HB.out with h0 | ⟨b, o, rfl, hbb, hcell⟩
      · omega
      have hck := (hcell q hlt).1
      clear hcell
      rcases Nat.lt_or_ge 1048576 (L q) with h1 | h1
      · have h2 : (1048576 : Int) < (L q : Int) := by omega
        go_wp2
        go_ret
        exact ⟨⟨_, rfl⟩, HB.out⟩
      have h2 : ¬ (1048576 : Int) < (L q : Int) := by omega
      by_cases h3 : 1048576 < s + L q
      · go_wp2
        go_ret
        exact ⟨⟨_, rfl⟩, HB.out⟩
      · go_wp2
        go_roundw
        case rel => exact ⟨q + 1, s + L q, by omega, by go_num, by go_num, by omega, by omega, HB.out⟩
        case measure => simp [intOf]; omega
    · obtain rfl : c = q := by omega
      clear hge
      go_wp2
      go_ret
      exact ⟨⟨_, rfl⟩, HB.out⟩

end Go.Proofs.Qxb6604049a
