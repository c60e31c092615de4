import Derived.Test.Qxb6604049aPushG
namespace Go.Proofs.Qxb6604049a

/-- How many counts an entry stands for. -/
def width (e : Int) : Nat := if 32768 ≤ e then (e - 32768).toNat else 1
def pos (E : Nat → Int) : Nat → Nat
  | 0 => 0
  | j + 1 => pos E j + width (E j)
/-- The law's own count of the fewest entries: (want, ones). -/
def few (Z : Nat → Int) : Nat → Nat × Nat
  | 0 => (0, 0)
  | i + 1 => if Z i = 1 then ((few Z i).1, (few Z i).2 + 1) else ((few Z i).1 + ((few Z i).2 + 32766) / 32767 + 1, 0)

theorem pos_congr {E E' : Nat → Int} : ∀ (n : Nat), (∀ j, j < n → E' j = E j) → pos E' n = pos E n
  | 0, _ => rfl
  | n + 1, h => by
    unfold pos
    rw [pos_congr n (fun j hj => h j (by omega)), h n (by omega)]

structure Inv (Z : Nat → Int) (i : Nat) (E : Nat → Int) (n c : Nat) : Prop where
  cap : n ≤ 32 + 1024 * c
  tight : c = 0 ∨ 1024 * c < n + 992
  bound : ∀ j, j < 32 + 1024 * c → 0 ≤ E j ∧ E j ≤ 65535
  valid : ∀ j, j < n → 2 ≤ E j ∧ E j ≠ 32768
  all : pos E n = i
  runs : ∀ j, j < n → 32768 < E j → ∀ x, pos E j ≤ x → x < pos E (j + 1) → Z x = 1
  counts : ∀ j, j < n → E j < 32768 → Z (pos E j) = E j
  least : n = (few Z i).1 + ((few Z i).2 + 32766) / 32767
  sum : (few Z i).1 + (few Z i).2 ≤ i
  last0 : (few Z i).2 = 0 → n = 0 ∨ E (n - 1) < 32768
  last1 : 0 < (few Z i).2 → 0 < n ∧ E (n - 1) = 32768 + (((few Z i).2 - 1) % 32767 : Nat) + 1

theorem Inv.start (Z : Nat → Int) : Inv Z 0 (fun _ => 0) 0 0 where
  cap := by omega
  tight := .inl rfl
  bound := fun _ _ => by omega
  valid := fun _ h => by omega
  all := rfl
  runs := fun _ h => by omega
  counts := fun _ h => by omega
  least := by simp [few]
  sum := by simp [few]
  last0 := fun _ => .inl rfl
  last1 := fun h => by simp [few] at h

theorem Inv.n_le {Z : Nat → Int} {i : Nat} {E : Nat → Int} {n c : Nat} (h : Inv Z i E n c) : n ≤ i := by
  have h1 := h.least
  have h2 := h.sum
  omega

theorem newE_small (k : Int) (h1 : 1 ≤ k) (h2 : k ≤ 32767) : 2 ≤ newE k ∧ newE k ≤ 65535 ∧ newE k ≠ 32768 ∧ width (newE k) = 1 := by
  unfold newE
  split
  · subst_vars; simp [width]
  · refine ⟨by omega, by omega, by omega, ?_⟩
    unfold width
    rw [if_neg (by omega)]

theorem Inv.step {Z : Nat → Int} {i : Nat} {E E' : Nat → Int} {n c n' c' : Nat} (h : Inv Z i E n c) (hk1 : 1 ≤ Z i) (hk2 : Z i ≤ 32767) (hp : Pushed E n c (Z i) E' n' c') : Inv Z (i + 1) E' n' c' := by
  have hcap := h.cap
  have htight := h.tight
  have hleast := h.least
  have hsum := h.sum
  rcases hp with ⟨⟨hk, hn0, hr, hne⟩, rfl, rfl, hE⟩ | ⟨hj, rfl, rfl, hE⟩
  · -- it joins the run
    obtain ⟨m, rfl⟩ : ∃ m, n' = m + 1 := ⟨n' - 1, by omega⟩
    simp only [Nat.add_sub_cancel] at hr hne hE
    have hv := h.valid m (by omega)
    have hlow : ∀ j, j < m → E' j = E j := fun j hj => by rw [hE j (by omega)]; unfold upd; rw [if_neg (by omega)]
    have hm : E' m = E m + 1 := by rw [hE m (by omega)]; unfold upd; rw [if_pos rfl]
    have hb := h.bound m (by omega)
    have hf : few Z (i + 1) = ((few Z i).1, (few Z i).2 + 1) := by rw [few, if_pos hk]
    have hO : 0 < (few Z i).2 := by
      rcases Nat.eq_zero_or_pos (few Z i).2 with e | e
      · have := h.last0 e
        simp only [Nat.add_sub_cancel] at this
        omega
      · exact e
    have hl := (h.last1 hO).2
    simp only [Nat.add_sub_cancel] at hl
    have hpm : pos E' m = pos E m := pos_congr m hlow
    have hpi : pos E (m + 1) = i := h.all
    have hpi' : pos E m + (E m - 32768).toNat = i := by rw [← hpi, pos, width, if_pos (by omega)]
    have hpn : pos E' (m + 1) = i + 1 := by
      rw [pos, hpm, hm, width, if_pos (by omega)]
      omega
    refine ⟨hcap, htight, fun j hj => ?_, fun j hj => ?_, hpn, fun j hj hlt x hx1 hx2 => ?_, fun j hj hlt => ?_, ?_, ?_, ?_, ?_⟩
    · rw [hE j hj]
      unfold upd
      split
      · omega
      · exact h.bound j hj
    · rcases Nat.lt_or_ge j m with h1 | h1
      · rw [hlow j h1]; exact h.valid j (by omega)
      · obtain rfl : j = m := by omega
        rw [hm]; omega
    · rcases Nat.lt_or_ge j m with h1 | h1
      · rw [hlow j h1] at hlt
        rw [pos_congr j (fun t ht => hlow t (by omega))] at hx1
        rw [pos_congr (j + 1) (fun t ht => hlow t (by omega))] at hx2
        exact h.runs j (by omega) hlt x hx1 hx2
      · obtain rfl : j = m := by omega
        rw [hpn] at hx2
        rw [hpm] at hx1
        rcases Nat.lt_or_ge x i with h2 | h2
        · exact h.runs j (by omega) (by omega) x hx1 (by omega)
        · obtain rfl : x = i := by omega
          exact hk
    · rcases Nat.lt_or_ge j m with h1 | h1
      · rw [hlow j h1] at hlt ⊢
        rw [pos_congr j (fun t ht => hlow t (by omega))]
        exact h.counts j (by omega) hlt
      · obtain rfl : j = m := by omega
        omega
    · rw [hf]; simp only; omega
    · rw [hf]; simp only; omega
    · rw [hf]; simp only; omega
    · rw [hf]; simp only [Nat.add_sub_cancel]
      intro _
      refine ⟨by omega, ?_⟩
      rw [hm, hl]
      omega
  · -- a new entry
    obtain ⟨g1, g2, g3, g4⟩ := newE_small (Z i) hk1 hk2
    obtain ⟨c', hc'⟩ : ∃ c', c' = if n = 32 + 1024 * c then c + 1 else c := ⟨_, rfl⟩
    rw [← hc'] at hE ⊢
    have hc1 : c ≤ c' ∧ n + 1 ≤ 32 + 1024 * c' ∧ (c' = 0 ∨ 1024 * c' < n + 1 + 992) := by
      split at hc' <;> omega
    obtain ⟨hcc, hcap', htight'⟩ := hc1
    have hlow : ∀ j, j < n → E' j = E j := fun j hj => by
      rw [hE j (by omega)]; unfold upd ext; rw [if_neg (by omega), if_pos (by omega)]
    have hn : E' n = newE (Z i) := by rw [hE n (by omega)]; unfold upd; rw [if_pos rfl]
    have hpn : pos E' n = i := by rw [pos_congr n hlow]; exact h.all
    have hpn1 : pos E' (n + 1) = i + 1 := by rw [pos, hpn, hn, g4]
    refine ⟨hcap', htight', fun j hj => ?_, fun j hj => ?_, hpn1, fun j hj hlt x hx1 hx2 => ?_, fun j hj hlt => ?_, ?_, ?_, ?_, ?_⟩
    · rw [hE j hj]
      unfold upd ext
      split
      · omega
      · split
        · exact h.bound j (by omega)
        · omega
    · rcases Nat.lt_or_ge j n with h1 | h1
      · rw [hlow j h1]; exact h.valid j h1
      · obtain rfl : j = n := by omega
        rw [hn]; omega
    · rcases Nat.lt_or_ge j n with h1 | h1
      · rw [hlow j h1] at hlt
        rw [pos_congr j (fun t ht => hlow t (by omega))] at hx1
        rw [pos_congr (j + 1) (fun t ht => hlow t (by omega))] at hx2
        exact h.runs j h1 hlt x hx1 hx2
      · obtain rfl : j = n := by omega
        rw [hpn] at hx1
        rw [hpn1] at hx2
        obtain rfl : x = i := by omega
        rw [hn] at hlt
        unfold newE at hlt
        split at hlt
        · assumption
        · omega
    · rcases Nat.lt_or_ge j n with h1 | h1
      · rw [hlow j h1] at hlt ⊢
        rw [pos_congr j (fun t ht => hlow t (by omega))]
        exact h.counts j h1 hlt
      · obtain rfl : j = n := by omega
        rw [hpn]
        rw [hn] at hlt ⊢
        unfold newE at hlt ⊢
        split at hlt
        · omega
        · rw [if_neg (by assumption)]
    all_goals
      by_cases hk : Z i = 1
    · have hf : few Z (i + 1) = ((few Z i).1, (few Z i).2 + 1) := by rw [few, if_pos hk]
      rw [hf]
      simp only
      unfold joins at hj
      rcases Nat.eq_zero_or_pos (few Z i).2 with e | e
      · omega
      · have hl := h.last1 e
        have : E (n - 1) = 65535 := by
          by_cases e2 : E (n - 1) = 65535
          · exact e2
          · exact absurd ⟨hk, hl.1, by omega, e2⟩ hj
        omega
    · have hf : few Z (i + 1) = ((few Z i).1 + ((few Z i).2 + 32766) / 32767 + 1, 0) := by rw [few, if_neg hk]
      rw [hf]
      simp only
      omega
    · have hf : few Z (i + 1) = ((few Z i).1, (few Z i).2 + 1) := by rw [few, if_pos hk]
      rw [hf]
      simp only
      omega
    · have hf : few Z (i + 1) = ((few Z i).1 + ((few Z i).2 + 32766) / 32767 + 1, 0) := by rw [few, if_neg hk]
      rw [hf]
      simp only
      omega
    · have hf : few Z (i + 1) = ((few Z i).1, (few Z i).2 + 1) := by rw [few, if_pos hk]
      rw [hf]
      simp only
      omega
    · intro _
      right
      rw [Nat.add_sub_cancel, hn]
      unfold newE
      rw [if_neg hk]
      omega
    · have hf : few Z (i + 1) = ((few Z i).1, (few Z i).2 + 1) := by rw [few, if_pos hk]
      rw [hf]
      simp only [Nat.add_sub_cancel]
      intro _
      refine ⟨by omega, ?_⟩
      rw [hn]
      unfold newE
      rw [if_pos hk]
      unfold joins at hj
      rcases Nat.eq_zero_or_pos (few Z i).2 with e | e
      · rw [e]; rfl
      · have hl := h.last1 e
        have : E (n - 1) = 65535 := by
          by_cases e2 : E (n - 1) = 65535
          · exact e2
          · exact absurd ⟨hk, hl.1, by omega, e2⟩ hj
        omega
    · have hf : few Z (i + 1) = ((few Z i).1 + ((few Z i).2 + 32766) / 32767 + 1, 0) := by rw [few, if_neg hk]
      rw [hf]
      simp

end Go.Proofs.Qxb6604049a
