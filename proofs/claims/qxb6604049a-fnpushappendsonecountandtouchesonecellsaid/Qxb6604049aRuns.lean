import Derived.Test.Qxb6604049aClone
namespace Go.Proofs.Qxb6604049a
open Go.RowKit

theorem info42 : (Try.prog.info? 42).map (fun i => (i.zero, i.size, i.bytes)) = some (some (.agg #[.int .i64 0, .int .i64 0]), 2, 16) := by kernel_rfl

/-- A list of runs, the last one first; its cells in the order of the row. -/
def runsV (r : List (Int × Int)) : List Value := r.reverse.flatMap fun p => [.int .i64 p.1, .int .i64 p.2]
/-- zzAppendRun. -/
def appR : List (Int × Int) → Int → Int → List (Int × Int)
  | [], v, k => [(v, k)]
  | (v', k') :: t, v, k => if v' = v then (v', wrap64 (k' + k)) :: t else (v, k) :: (v', k') :: t

theorem appR_same (v k' k : Int) (t : List (Int × Int)) : appR ((v, k') :: t) v k = (v, wrap64 (k' + k)) :: t := by simp [appR]
theorem appR_other {v v' : Int} (h : ¬ v' = v) (k' k : Int) (t : List (Int × Int)) : appR ((v', k') :: t) v k = (v, k) :: (v', k') :: t := by simp [appR, h]
theorem runsV_cons (p : Int × Int) (r : List (Int × Int)) : runsV (p :: r) = runsV r ++ [.int .i64 p.1, .int .i64 p.2] := by simp [runsV]
theorem runsV_length : ∀ (r : List (Int × Int)), (runsV r).length = r.length * 2
  | [] => rfl
  | p :: r => by rw [runsV_cons, List.length_append, runsV_length r]; simp; omega

theorem runsV_set (v k k' : Int) (r : List (Int × Int)) : (runsV ((v, k) :: r)).set (r.length * 2 + 1) (.int .i64 k') = runsV ((v, k') :: r) := by
  rw [runsV_cons, runsV_cons, List.set_append_right _ _ (by rw [runsV_length]; omega), runsV_length, show r.length * 2 + 1 - r.length * 2 = 1 by omega]
  rfl

/-- The row's cells, as they are read. -/
theorem runs_get (r : List (Int × Int)) (i : Nat) (hi : i < r.length) : ∃ p : Int × Int, (runsV r)[i * 2]? = some (.int .i64 p.1) ∧ (runsV r)[i * 2 + 1]? = some (.int .i64 p.2) := by
  induction r with
  | nil => simp at hi
  | cons p r ih =>
    rw [runsV_cons]
    rcases Nat.lt_or_ge i r.length with h | h
    · obtain ⟨q, h1, h2⟩ := ih h
      refine ⟨q, ?_, ?_⟩
      · rw [List.getElem?_append_left (by rw [runsV_length]; omega)]; exact h1
      · rw [List.getElem?_append_left (by rw [runsV_length]; omega)]; exact h2
    · have : i = r.length := by simp at hi; omega
      subst this
      refine ⟨p, ?_, ?_⟩
      · rw [List.getElem?_append_right (by rw [runsV_length]; omega), runsV_length, Nat.sub_self]; rfl
      · rw [List.getElem?_append_right (by rw [runsV_length]; omega), runsV_length, show r.length * 2 + 1 - r.length * 2 = 1 by omega]; rfl

theorem runs_top (v k : Int) (r : List (Int × Int)) : (runsV ((v, k) :: r))[r.length * 2]? = some (.int .i64 v) ∧ (runsV ((v, k) :: r))[r.length * 2 + 1]? = some (.int .i64 k) := by
  rw [runsV_cons]
  refine ⟨?_, ?_⟩
  · rw [List.getElem?_append_right (by rw [runsV_length]; omega), runsV_length, Nat.sub_self]; rfl
  · rw [List.getElem?_append_right (by rw [runsV_length]; omega), runsV_length, show r.length * 2 + 1 - r.length * 2 = 1 by omega]; rfl

/-- A row of runs of the call's own. -/
def Runs (B : Nat) (w : World) (v : Value) (r : List (Int × Int)) : Prop := w.ownsRow B 42 2 v r.length (runsV r)

/-- 'append(l, zzRun{v, k})'. -/
theorem wpList_run {w : World} {ops : Array Oper} {rest : List Oper} {o : Oper} {a : Act} {Q : Exit → Act → World → Prop} (hgd : o.guard = none) (s x : Operand)
    (ho : o.op = .call { callee := .builtin .append, args := #[s, x], argTypes := #[33, 33] }) (B : Nat) (r : List (Int × Int)) (v : Value) (b : Nat) (p k : Int)
    (hs : a.eval s = v) (hown : Runs B w v r) (hx : a.eval x = .slice (some ⟨b, 0, none⟩) 1 1) (hc0 : w.cell? ⟨b, 0, none⟩ = some (.int .i64 p)) (hc1 : w.cell? ⟨b, 1, none⟩ = some (.int .i64 k)) (hk : r.length ≤ 100000000) (hB : B ≤ w.heap.size)
    (h : ∀ v' w', Runs B w' v' ((p, k) :: r) → Below B w w' → wpList Try.prog ops Q rest (a.put o.dst v') w') : wpList Try.prog ops Q (o :: rest) a w := by
  obtain ⟨i0, hi, h0, h1, h2⟩ := info_parts info42
  refine wpList_append_own _ hgd s x 33 ho B 42 i0 (.agg #[.int .i64 0, .int .i64 0]) 2 16 Try.underlying33 hi h0 h1 h2 rfl (by decide) v r.length _ hs hown ⟨b, 0, none⟩ 1 1 [.int .i64 p, .int .i64 k] hx rfl ?_ ?_ ?_ ?_ hB ?_
  · intro j u hj
    match j, hj with
    | 0, hj => simp at hj; subst hj; simpa [Addr.add] using hc0
    | 1, hj => simp at hj; subst hj; simpa [Addr.add] using hc1
  · intro u hu
    simp at hu
    rcases hu with rfl | rfl <;> rfl
  · unfold maxLen; omega
  · omega
  · intro v' w' hown' hgrow _
    refine h v' w' ?_ (Below.grown (Below.refl _ _) hgrow hB (fun k hk => (hown.lt k hk).1))
    unfold Runs
    rw [runsV_cons]
    exact hown'

set_option maxRecDepth 100000 in
set_option maxHeartbeats 1000000 in
theorem appendRun_any (w : World) (B : Nat) (v : Value) (r : List (Int × Int)) (x k : Int) (hr : r.length ≤ 100000000) (hB : B ≤ w.heap.size) (H : Runs B w v r) :
    Calls Try.prog 12 #[v, .int .i64 x, .int .i64 k] w fun e w' => ∃ v', e = .returned v' ∧ Runs B w' v' (appR r x k) ∧ Below B w w' := by
  have HO := hide H
  cases r with
  | nil =>
    obtain ⟨a, cap, rfl⟩ : ∃ a cap, v = .slice a 0 cap := by
      rcases H.2 with ⟨h, _⟩ | ⟨g, cap, _, h, _⟩
      · exact ⟨none, 0, h⟩
      · exact ⟨_, cap, h⟩
    clear H
    go_enter Try.func12, Try.ntmps12
    go_wp2_with (at_builtin; refine wpList_run rfl _ _ rfl B [] _ w.heap.size x k rfl (World.ownsRow.alloc HO.out _) rfl ?c1 ?c2 (by simp) ?c3 ?_)
    case c1 => simp
    case c2 => simp
    case c3 => simp; omega
    intro v' w' hown hb
    have H1 := hide hown
    have H2 := hide (((Below.refl B w).alloc hB _).trans hb)
    clear hown hb
    go_wp2
    go_ret
    exact ⟨_, rfl, H1.out, H2.out⟩
  | cons p t =>
    obtain ⟨v', k'⟩ := p
    obtain ⟨g, cap, rfl⟩ : ∃ g cap, v = .slice (some ⟨g, 0, none⟩) (t.length + 1) cap := by
      rcases H.2 with ⟨_, h⟩ | ⟨g, cap, _, h, _⟩
      · simp at h
      · exact ⟨g, cap, h⟩
    have c0 := (H.cellAt (t.length * 2) (by omega)).trans (runs_top v' k' t).1
    have c1 := (H.cellAt (t.length * 2 + 1) (by omega)).trans (runs_top v' k' t).2
    have f1 := H.frozenAt (t.length * 2 + 1)
    have hgB : B ≤ g := (H.lt g (by simp [Value.ownBlock])).1
    have hlen : t.length + 1 ≤ 100000000 := by simpa using hr
    clear H hr
    by_cases hv : v' = x
    · subst hv
      have HS := hide (HO.out.stored (t.length * 2 + 1) (.int .i64 (wrap64 (k' + k))))
      go_enter Try.func12, Try.ntmps12
      go_wp2
      go_ret
      refine ⟨_, rfl, ?_, (Below.refl _ _).setCell hgB _⟩
      have := HS.out.1
      rw [runsV_set] at this
      rw [appR_same]
      exact this
    · go_enter Try.func12, Try.ntmps12
      go_wp2_with (at_builtin; refine wpList_run rfl _ _ rfl B _ _ w.heap.size x k rfl (World.ownsRow.alloc HO.out _) rfl ?c1 ?c2 (by simpa using hlen) ?c3 ?_)
      case c1 => simp
      case c2 => simp
      case c3 => simp; omega
      intro v2 w2 hown hb
      have H1 := hide hown
      have H2 := hide (((Below.refl B w).alloc hB _).trans hb)
      clear hown hb
      go_wp2
      go_ret
      refine ⟨_, rfl, ?_, H2.out⟩
      rw [appR_other hv]
      exact H1.out

/-- zzCanon over the first j entries. -/
def canR (E : Nat → Int) : Nat → List (Int × Int)
  | 0 => []
  | j + 1 => if 32768 ≤ E j then appR (canR E j) 1 (E j - 32768) else appR (canR E j) (E j) 1

theorem appR_length (r : List (Int × Int)) (v k : Int) : (appR r v k).length ≤ r.length + 1 := by
  cases r with
  | nil => simp [appR]
  | cons p t =>
    obtain ⟨v', k'⟩ := p
    by_cases h : v' = v
    · subst h; rw [appR_same]; simp
    · rw [appR_other h]; simp
theorem canR_length (E : Nat → Int) : ∀ j, (canR E j).length ≤ j
  | 0 => by simp [canR]
  | j + 1 => by
    have := canR_length E j
    rw [canR]
    split
    · have := appR_length (canR E j) 1 (E j - 32768); omega
    · have := appR_length (canR E j) (E j) 1; omega

/-- What was read of zzEntries. -/
def EntIn (w : World) (a : Option Addr) (n : Nat) (E : Nat → Int) : Prop := n = 0 ∨ ∃ g, a = some ⟨g, 0, none⟩ ∧ g < w.heap.size ∧ ∀ j, j < n → w.cell? ⟨g, j, none⟩ = some (.int .u16 (E j))
theorem EntIn.below {w w' : World} {a : Option Addr} {n : Nat} {E : Nat → Int} (h : EntIn w a n E) (hb : Below w.heap.size w w') : EntIn w' a n E := by
  rcases h with h | ⟨g, ha, hl, hc⟩
  · exact .inl h
  · exact .inr ⟨g, ha, Nat.lt_of_lt_of_le hl hb.size, fun j hj => (hb.cell (p := ⟨g, j, none⟩) hl).trans (hc j hj)⟩

set_option maxRecDepth 100000 in
set_option maxHeartbeats 1000000 in
theorem canon_any (w : World) (a : Option Addr) (n cap : Nat) (E : Nat → Int) (hn : n ≤ 100000000) (hE : ∀ j, j < n → 0 ≤ E j ∧ E j ≤ 65535) (H : EntIn w a n E) :
    Calls Try.prog 11 #[.slice a n cap] w fun e w' => ∃ v, e = .returned v ∧ Runs w.heap.size w' v (canR E n) ∧ Below w.heap.size w w' := by
  have HO := hide H
  have HE := hide hE
  clear H hE
  go_enter Try.func11, Try.ntmps11
  go_wp2
  go_loopw [3, 4] (fun v i wr => ∃ k : Nat, k ≤ n ∧ i = .int .i64 k ∧ Runs w.heap.size wr v (canR E k) ∧ Below w.heap.size w wr) (fun _ i _ => n - (intOf i).toNat)
  case atStart => exact ⟨0, by omega, rfl, World.ownsRow_nil _ _ _ _, Below.refl _ _⟩
  case round =>
    obtain ⟨k, hk, rfl, hrun, hb⟩ := hrel
    have HRUN := hide hrun
    have HB := hide hb
    clear hrun hb
    rcases Nat.lt_or_ge k n with hlt | hge
    · obtain ⟨e0, e1⟩ := HE.out k hlt
      rcases HO.out.below HB.out with h0 | ⟨g, rfl, hg, hc⟩
      · omega
      have hck := hc k hlt
      clear hc
      have b1 := and_run (E k) e0 e1
      have b2 := andNot_run (E k) e0 e1
      have hlen := canR_length E k
      by_cases hr : 32768 ≤ E k
      · rw [if_pos hr] at b1 b2
        go_wp2_with fail
        refine (appendRun_any wr w.heap.size _ (canR E k) 1 (E k - 32768) (by omega) HB.out.size HRUN.out).mono ?_
        rintro e w1 ⟨v', rfl, h1, h2⟩
        have H1 := hide h1
        have H2 := hide h2
        clear h1 h2
        go_wp2
        go_roundw
        case rel => exact ⟨k + 1, by omega, by go_num, by rw [canR, if_pos hr]; exact H1.out, HB.out.trans H2.out⟩
        case measure => simp [intOf]; omega
      · rw [if_neg hr] at b1 b2
        go_wp2_with fail
        refine (appendRun_any wr w.heap.size _ (canR E k) (E k) 1 (by omega) HB.out.size HRUN.out).mono ?_
        rintro e w1 ⟨v', rfl, h1, h2⟩
        have H1 := hide h1
        have H2 := hide h2
        clear h1 h2
        go_wp2
        go_roundw
        case rel => exact ⟨k + 1, by omega, by go_num, by rw [canR, if_neg (by omega)]; exact H1.out, HB.out.trans H2.out⟩
        case measure => simp [intOf]; omega
    · obtain rfl : n = k := by omega
      clear hge
      go_wp2
      go_ret
      exact ⟨_, rfl, HRUN.out, HB.out⟩

/-- A row of runs as it is read. -/
def RunsIn (w : World) (a : Option Addr) (r : List (Int × Int)) : Prop := r.length = 0 ∨ ∃ g, a = some ⟨g, 0, none⟩ ∧ g < w.heap.size ∧ ∀ j, j < r.length * 2 → w.cell? ⟨g, j, none⟩ = (runsV r)[j]?
theorem RunsIn.below {w w' : World} {a : Option Addr} {r : List (Int × Int)} (h : RunsIn w a r) (hb : Below w.heap.size w w') : RunsIn w' a r := by
  rcases h with h | ⟨g, ha, hl, hc⟩
  · exact .inl h
  · exact .inr ⟨g, ha, Nat.lt_of_lt_of_le hl hb.size, fun j hj => (hb.cell (p := ⟨g, j, none⟩) hl).trans (hc j hj)⟩
theorem Runs.reads {B : Nat} {w : World} {v : Value} {r : List (Int × Int)} (h : Runs B w v r) : ∃ a cap, v = .slice a r.length cap ∧ RunsIn w a r := by
  rcases h.2 with ⟨rfl, h0⟩ | ⟨g, cap, cur, rfl, hrest⟩
  · exact ⟨none, 0, by rw [h0], .inl h0⟩
  · exact ⟨_, cap, rfl, .inr ⟨g, rfl, (h.lt g (by simp [Value.ownBlock])).2, fun j hj => h.cellAt j hj⟩⟩

set_option maxRecDepth 100000 in
set_option maxHeartbeats 2000000 in
theorem sameRuns_any (w : World) (a b : Option Addr) (ca cb : Nat) (r : List (Int × Int)) (hr : r.length ≤ 100000000) (Ha : RunsIn w a r) (Hb : RunsIn w b r) :
    Calls Try.prog 10 #[.slice a r.length ca, .slice b r.length cb] w fun e w' => e = .returned (.bool true) ∧ ∃ q, w' = w.drewN q := by
  have HA := hide Ha
  have HB := hide Hb
  obtain ⟨n, hn⟩ : ∃ n, n = r.length := ⟨_, rfl⟩
  rw [← hn] at hr ⊢
  have HN := hide hn
  clear Ha Hb hn
  go_enter Try.func10, Try.ntmps10
  go_wp2
  go_loopw [5] (fun i wr => ∃ k : Nat, k ≤ n ∧ i = .int .i64 k ∧ ∃ q, wr = w.drewN q) (fun i _ => n - (intOf i).toNat)
  case atStart => exact ⟨0, by omega, rfl, 0, rfl⟩
  case round =>
    obtain ⟨k, hk, rfl, q, rfl⟩ := hrel
    rcases Nat.lt_or_ge k n with hlt | hge
    · obtain ⟨p, p1, p2⟩ := runs_get r k (by rw [← HN.out]; exact hlt)
      rcases HA.out with h0 | ⟨ga, rfl, _, hca⟩
      · rw [← HN.out] at h0; omega
      rcases HB.out with h0 | ⟨gb, rfl, _, hcb⟩
      · rw [← HN.out] at h0; omega
      have a0 := (hca (k * 2) (by rw [← HN.out]; omega)).trans p1
      have a1 := (hca (k * 2 + 1) (by rw [← HN.out]; omega)).trans p2
      have b0 := (hcb (k * 2) (by rw [← HN.out]; omega)).trans p1
      have b1 := (hcb (k * 2 + 1) (by rw [← HN.out]; omega)).trans p2
      clear hca hcb p1 p2
      go_wp2_with fail
      go_quiet (fail)
      go_wp2
      go_roundw
      case rel => exact ⟨k + 1, by omega, by go_num, _, rfl⟩
      case measure => simp [intOf]; omega
    · obtain rfl : n = k := by omega
      clear hge
      go_wp2
      go_ret
      exact ⟨rfl, _, rfl⟩

end Go.Proofs.Qxb6604049a
