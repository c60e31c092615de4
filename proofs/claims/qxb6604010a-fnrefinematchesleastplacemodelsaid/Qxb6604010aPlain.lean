/-
  THE PLAIN MATHEMATICS of the laws on 'refine': least places. No Go in sight.
-/
namespace Go.Proofs.Qxb6604010a

/-- The least c below n with p c; n where there is none. -/
def least (p : Nat → Bool) (n : Nat) : Nat := ((List.range n).find? p).getD n

theorem find_range_none {p : Nat → Bool} {n : Nat} (h : ∀ c, c < n → p c = false) : (List.range n).find? p = none := by
  rw [List.find?_eq_none]
  intro x hx
  simp [h x (List.mem_range.1 hx)]

theorem least_none {p : Nat → Bool} {n : Nat} (h : ∀ c, c < n → p c = false) : least p n = n := by
  simp [least, find_range_none h]

theorem least_hit {p : Nat → Bool} {n r : Nat} (hr : r < n) (hp : p r = true) (h : ∀ c, c < r → p c = false) : least p n = r := by
  have e : List.range n = List.range r ++ (List.range (n - r)).map (r + ·) := by
    rw [← List.range_add]; congr 1; omega
  have e2 : List.range (n - r) = 0 :: (List.range (n - r - 1)).map (· + 1) := by
    obtain ⟨m, hm⟩ : ∃ m, n - r = m + 1 := ⟨n - r - 1, by omega⟩
    rw [hm, List.range_succ_eq_map]; simp
  rw [least, e, List.find?_append, find_range_none h, e2]
  simp [hp]

theorem least_spec (p : Nat → Bool) : ∀ n, least p n ≤ n ∧ (∀ c, c < least p n → p c = false) ∧ (least p n < n → p (least p n) = true) := by
  intro n
  by_cases hx : ∃ r, r < n ∧ p r = true
  · obtain ⟨r, hr, hp⟩ := hx
    -- the least such one, by strong induction
    have key : ∀ m, ∀ r, r < m → r < n → p r = true → ∃ q, q < n ∧ p q = true ∧ ∀ c, c < q → p c = false := by
      intro m
      induction m with
      | zero => intro r h; omega
      | succ m ih =>
        intro r h hrn hp
        by_cases hy : ∃ c, c < r ∧ p c = true
        · obtain ⟨c, hc, hpc⟩ := hy
          exact ih c (by omega) (by omega) hpc
        · refine ⟨r, hrn, hp, fun c hc => ?_⟩
          cases hpc : p c
          · rfl
          · exact absurd ⟨c, hc, hpc⟩ hy
    obtain ⟨q, hq, hpq, hlt⟩ := key (r + 1) r (by omega) hr hp
    rw [least_hit hq hpq hlt]
    exact ⟨by omega, hlt, fun _ => hpq⟩
  · have h : ∀ c, c < n → p c = false := by
      intro c hc
      cases hpc : p c
      · rfl
      · exact absurd ⟨c, hc, hpc⟩ hx
    rw [least_none h]
    exact ⟨Nat.le_refl _, h, fun h => absurd h (Nat.lt_irrefl _)⟩

/-- One and the same below n: one and the same least. -/
theorem least_congr {p q : Nat → Bool} {n : Nat} (h : ∀ c, c < n → p c = q c) : least p n = least q n := by
  obtain ⟨h1, h2, h3⟩ := least_spec q n
  rcases Nat.lt_or_ge (least q n) n with hl | hl
  · exact least_hit hl (by rw [h _ hl]; exact h3 hl) (fun c hc => by rw [h c (by omega)]; exact h2 c hc)
  · have e : least q n = n := by omega
    rw [e]
    exact least_none (fun c hc => by rw [h c hc]; exact h2 c (by omega))

/-- Do the first n facts hold one value at places a and b? -/
def agree (n : Nat) (Z : Nat → Nat → Int) (a b : Nat) : Bool := (List.range n).all fun i => Z i a == Z i b

theorem agree_iff {n : Nat} {Z : Nat → Nat → Int} {a b : Nat} : agree n Z a b = true ↔ ∀ i, i < n → Z i a = Z i b := by
  simp [agree]

/-- What zzLeastAgreeing answers. -/
def la (n : Nat) (Z : Nat → Nat → Int) (p : Nat) : Nat := least (fun b => agree n Z b p) p

theorem la_hit {n k p : Nat} {Z : Nat → Nat → Int} (h : k < p) (ha : ∀ i, i < n → Z i k = Z i p) (hn : ∀ c, c < k → agree n Z c p = false) : (k : Int) = (la n Z p : Nat) := by
  have : la n Z p = k := least_hit (p := fun b => agree n Z b p) h (agree_iff.2 ha) hn
  rw [this]

theorem la_none {n p : Nat} {Z : Nat → Nat → Int} (hn : ∀ c, c < p → agree n Z c p = false) : (p : Int) = (la n Z p : Nat) := by
  have : la n Z p = p := least_none (p := fun b => agree n Z b p) hn
  rw [this]

theorem la_le (n : Nat) (Z : Nat → Nat → Int) (p : Nat) : la n Z p ≤ p := (least_spec _ p).1

theorem la_agree (n : Nat) (Z : Nat → Nat → Int) (p : Nat) : ∀ i, i < n → Z i (la n Z p) = Z i p := by
  obtain ⟨h1, _, h3⟩ := least_spec (fun b => agree n Z b p) p
  rcases Nat.lt_or_ge (la n Z p) p with hl | hl
  · exact agree_iff.1 (h3 hl)
  · have e : la n Z p = p := by have := la_le n Z p; omega
    rw [e]; intros; rfl

theorem la_least (n : Nat) (Z : Nat → Nat → Int) (p c : Nat) (hc : c < la n Z p) : agree n Z c p = false :=
  (least_spec (fun b => agree n Z b p) p).2.1 c hc

/-- Two places have one least place just if the facts agree at them. -/
theorem la_eq_iff (n : Nat) (Z : Nat → Nat → Int) (a b : Nat) : la n Z a = la n Z b ↔ ∀ i, i < n → Z i a = Z i b := by
  constructor
  · intro h i hi
    have h1 := la_agree n Z a i hi
    have h2 := la_agree n Z b i hi
    rw [← h1, ← h2, h]
  · intro h
    rcases Nat.lt_trichotomy (la n Z a) (la n Z b) with hl | hl | hl
    · have h1 := la_agree n Z a
      have h2 := la_least n Z b _ hl
      rw [agree_iff.2 (fun i hi => (h1 i hi).trans (h i hi))] at h2
      cases h2
    · exact hl
    · have h1 := la_agree n Z b
      have h2 := la_least n Z a _ hl
      rw [agree_iff.2 (fun i hi => (h1 i hi).trans (h i hi).symm)] at h2
      cases h2

/-- What refine leaves in 'same': the least place with the same old mark and the same value. -/
def tied (S : Nat → Int) (F : Nat → Int) (p : Nat) : Nat := least (fun a => S a == S p && F a == F p) p

/-- THE STEP: refined by the next fact, the least places of n facts are those of n + 1. -/
theorem tied_la (n : Nat) (Z : Nat → Nat → Int) (p : Nat) : tied (fun j => (la n Z j : Int)) (Z n) p = la (n + 1) Z p := by
  refine least_congr fun c _ => ?_
  rw [Bool.eq_iff_iff]
  simp only [Bool.and_eq_true, beq_iff_eq, agree_iff]
  constructor
  · rintro ⟨h1, h2⟩ i hi
    have h1' : la n Z c = la n Z p := by omega
    rcases Nat.lt_succ_iff_lt_or_eq.1 hi with h | h
    · exact (la_eq_iff n Z c p).1 h1' i h
    · subst h; exact h2
  · intro h
    have := (la_eq_iff n Z c p).2 (fun i hi => h i (by omega))
    exact ⟨by omega, h n (by omega)⟩

/-- AGAIN by a fact already taken: nothing turns. -/
theorem tied_again (n m : Nat) (hm : m < n) (Z : Nat → Nat → Int) (p : Nat) : tied (fun j => (la n Z j : Int)) (Z m) p = la n Z p := by
  refine least_congr fun c _ => ?_
  rw [Bool.eq_iff_iff]
  simp only [Bool.and_eq_true, beq_iff_eq, agree_iff]
  constructor
  · rintro ⟨h1, h2⟩
    have h1' : la n Z c = la n Z p := by omega
    exact (la_eq_iff n Z c p).1 h1'
  · intro h
    have := (la_eq_iff n Z c p).2 h
    exact ⟨by omega, h m hm⟩

/-- Does one of the facts 1 .. n-1 differ from fact 0 at p? -/
def vary (n : Nat) (Z : Nat → Nat → Int) (p : Nat) : Bool := (List.range n).any fun i => Z i p != Z 0 p

theorem vary_one (Z : Nat → Nat → Int) (p : Nat) : vary 1 Z p = false := by simp [vary]

theorem vary_succ (n : Nat) (Z : Nat → Nat → Int) (p : Nat) : vary (n + 1) Z p = (vary n Z p || Z n p != Z 0 p) := by
  simp [vary, List.range_succ]

theorem vary_true {n m p : Nat} {Z : Nat → Nat → Int} (hm : m < n) (h : (Z m p != Z 0 p) = true) : vary n Z p = true :=
  List.any_eq_true.2 ⟨m, List.mem_range.2 hm, h⟩

theorem vary_false {n p : Nat} {Z : Nat → Nat → Int} (h : ∀ i, i < n → Z i p = Z 0 p) : vary n Z p = false := by
  rw [vary, List.any_eq_false]
  intro i hi
  simp [h i (List.mem_range.1 hi)]

theorem vary_again (n m : Nat) (hm : m < n) (Z : Nat → Nat → Int) (p : Nat) : (vary n Z p || Z m p != Z 0 p) = vary n Z p := by
  cases h : vary n Z p
  · simp only [Bool.false_or]
    have := List.any_eq_false.1 h m (List.mem_range.2 hm)
    simpa using this
  · rfl

end Go.Proofs.Qxb6604010a
