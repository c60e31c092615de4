import Derived.Test.Qxb6604049aGrow
import Derived.BigRegion
import Derived.Deep.RegionLaw
namespace Go.Proofs.Qxb6604049a
open Go.RowKit

/-- The append as one step of a region that draws, by the run's equation. -/
theorem step_append_run {P : Program} {ops : Array Oper} {o : Oper} {a : Act} {W w1 : World} {K : Act → World → Prop} {Q : Exit → Act → World → Prop} {E : Prop}
    (hgd : o.guard = none) (s x : Operand) (hop : o.op = .call { callee := .builtin .append, args := #[s, x], argTypes := #[24, 24] }) (hty : o.type = 24) (v u r : Value) (hs : a.eval s = v) (hx : a.eval x = u)
    (hrun : (Builtin.append_ #[24, 24] 24 #[v, u]).run P W = .ok r w1) (h : K (a.put o.dst r) w1) :
    if Region.wanted o (yielded ops a.tmps) = true then Oper.wp P o a W K Q else E := by
  have hw : Region.wanted o (yielded ops a.tmps) = true := by simp [Region.wanted, hgd]
  rw [if_pos hw]
  unfold Oper.wp execOp
  simp only [hop, hty, resolve, invoke, builtin, Sem.run_bind, Sem.run_pure, Result.andThen_ok, List.map_toArray, List.map_cons, List.map_nil, hs, hx, hrun]
  exact h

set_option maxRecDepth 100000 in
set_option maxHeartbeats 1000000 in
/-- push: a new entry above 1, every cell is used. -/
theorem push_grow_k (w : World) (B g : Nat) (d : Int) (n : Nat) (E : Nat → Int) (ao : Option Addr) (c cap : Nat) (bk : Nat → Nat) (k : Int) (hn : n = 32 + 1024 * c) (hc : c ≤ 65536) (hk1 : 2 ≤ k) (hk2 : k ≤ 32767)
    (H : Stk w B g d n E ao c cap bk) :
    Calls Try.prog 14 #[.pointer (some ⟨g, 0, none⟩), .int .i64 k] w fun e w' => e = .returned (.tuple #[]) ∧ (∃ ao' cap' bk', Stk w' B g (wrap64 (d + 1)) ((n : Int) + 1) (upd (ext E c) n k) ao' (c + 1) cap' bk') ∧ Kept (tch g ao c cap bk) w w' := by
  have cd := H.cd
  have cn := H.cn
  have cc := H.cc
  have f0 := H.fz 0
  have f1 := H.fz 1
  have f34 := H.fz 34
  have HS := hide H
  have HN := hide hn
  have hglt := H.row.lt
  have n1 : 32 + 1024 * c ≤ n := by omega
  have n2 : n ≤ 32 + 1024 * c := by omega
  clear H hn
  have hz : (k == 1) = false := beq_eq_false_iff_ne.2 (by omega)
  have hg : ((n : Int) - 32 == (c : Int) * 1024) = true := beq_iff_eq.2 (by omega)
  have hg0 : decide ((32 : Int) ≤ (n : Int)) = true := by simp; omega
  go_enter Try.func14, Try.ntmps14
  go_wp2
  go_quiet (fail)
  go_wp2
  obtain ⟨g', cap', w1, happ, hc34, hf34, HS1, HB1⟩ := ((HS.out.setD (wrap64 (d + 1))).drewN (nq + 1)).grow hc w.heap.size (by simp)
  have HS1 := hide HS1
  have HB1 := hide HB1
  have hmk := make_chunk
  have HAPP := hide happ
  clear happ
  have hn1 : n < 32 + 1024 * (c + 1) := by omega
  have ce := (HS1.out.entry hn1).1
  have fe := (HS1.out.entry hn1).2
  have cn1 := HS1.out.cn
  have fn1 := HS1.out.fz 1
  have cn2 := (HS1.out.setE hn1 k).cn
  have HF := hide ((HS1.out.setE hn1 k).setN ((n : Int) + 1))
  have HBB := hide ((((((Kept.refl (tch g ao c cap bk) w).setCell (p := ⟨g, 0, none⟩) (.inl (.inl rfl)) (.int .i64 (wrap64 (d + 1)))).drewN (nq + 1)).trans HB1.out).setCell (p := eAddr g (fun i => if i = c then w.heap.size else bk i) n) (.inr (by unfold eAddr; rw [if_neg (by omega)]; show w.heap.size ≤ (if (n - 32) / 1024 = c then w.heap.size else _); rw [if_pos (by omega)]; exact Nat.le_refl _)) (.int .u16 k)).setCell (p := ⟨g, 1, none⟩) (.inl (.inl rfl)) (.int .i64 ((n : Int) + 1)))
  rw [World.frozen?_setCell] at fe fn1
  go_region_law (refine step_append_run rfl (.tmp 68) (.tmp 70) rfl rfl _ _ _ (by simp [Act.eval]) (by simp [Act.eval]) HAPP.out ?_)
  all_goals
    go_wp2_with fail
    refine (entry_any HS1.out hn1 (by omega)).mono ?_
    rintro e w2 ⟨rfl, hw⟩
    rw [hw]
    clear hw w2
    generalize eAddr g _ n = A at *
    go_wp2
    go_end0
    exact ⟨rfl, ⟨_, _, _, HF.out⟩, HBB.out⟩

set_option maxRecDepth 100000 in
set_option maxHeartbeats 1000000 in
/-- push: a 1 that joins no run, every cell is used. -/
theorem push_grow_one (w : World) (B g : Nat) (d : Int) (n : Nat) (E : Nat → Int) (ao : Option Addr) (c cap : Nat) (bk : Nat → Nat) (hn : n = 32 + 1024 * c) (hc : c ≤ 65536)
    (hE : ∀ j, j < 32 + 1024 * c → 0 ≤ E j ∧ E j ≤ 65535) (hj : n = 0 ∨ E (n - 1) < 32768 ∨ E (n - 1) = 65535) (H : Stk w B g d n E ao c cap bk) :
    Calls Try.prog 14 #[.pointer (some ⟨g, 0, none⟩), .int .i64 1] w fun e w' => e = .returned (.tuple #[]) ∧ (∃ ao' cap' bk', Stk w' B g (wrap64 (d + 1)) ((n : Int) + 1) (upd (ext E c) n 32769) ao' (c + 1) cap' bk') ∧ Kept (tch g ao c cap bk) w w' := by
  have cd := H.cd
  have cn := H.cn
  have cc := H.cc
  have f0 := H.fz 0
  have f1 := H.fz 1
  have f34 := H.fz 34
  have HS := hide H
  have HE := hide hE
  have HJ := hide hj
  have hglt := H.row.lt
  have n1 : 32 + 1024 * c ≤ n := by omega
  have n2 : n ≤ 32 + 1024 * c := by omega
  clear H hE hj hn
  go_enter Try.func14, Try.ntmps14
  go_upto_if 21 with fail
  go_cut [] (fun wc => wc = w.setCell ⟨g, 0, none⟩ (.int .i64 (wrap64 (d + 1))))
  case first =>
    rcases Nat.eq_zero_or_pos n with h0 | h0
    · omega
    obtain ⟨m, rfl⟩ : ∃ m, n = m + 1 := ⟨n - 1, by omega⟩
    have hm : m < 32 + 1024 * c := by omega
    have ce := ((HS.out.setD (wrap64 (d + 1))).entry hm).1
    have fe := (HS.out.entry hm).2
    obtain ⟨e1, e2⟩ := HE.out m hm
    have hjm : E m < 32768 ∨ E m = 65535 := by
      rcases HJ.out with h | h
      · omega
      · simpa using h
    have HJM := hide hjm
    clear hjm
    go_wp2_with fail
    refine (entry_any (HS.out.setD _) hm (by omega)).mono ?_
    rintro e w1 ⟨rfl, hw⟩
    rw [hw]
    clear hw w1
    generalize eAddr g bk m = A at *
    rcases HJM.out with h | h
    · have hb : bits .and .u16 (E m) 32768 = 0 := by rw [and_run _ e1 e2, if_neg (by omega)]
      go_wp2
      go_meet
      case rel => rfl
    · have hb : bits .and .u16 (E m) 32768 = 32768 := by rw [and_run _ e1 e2, if_pos (by omega)]
      have hf : (E m != 65535) = false := by simp [h]
      clear h
      go_wp2
      go_meet
      case rel => rfl
  case rest =>
    subst hcut
    have hg : ((n : Int) - 32 == (c : Int) * 1024) = true := beq_iff_eq.2 (by omega)
    have hg0 : decide ((32 : Int) ≤ (n : Int)) = true := by simp; omega
    go_wp2
    go_quiet (fail)
    go_wp2
    obtain ⟨g', cap', w1, happ, hc34, hf34, HS1, HB1⟩ := ((HS.out.setD (wrap64 (d + 1))).drewN (nq + 1)).grow hc w.heap.size (by simp)
    have HS1 := hide HS1
    have HB1 := hide HB1
    have hmk := make_chunk
    have HAPP := hide happ
    clear happ
    have hn1 : n < 32 + 1024 * (c + 1) := by omega
    have ce := (HS1.out.entry hn1).1
    have fe := (HS1.out.entry hn1).2
    have cn1 := HS1.out.cn
    have fn1 := HS1.out.fz 1
    have cn2 := (HS1.out.setE hn1 32769).cn
    have HF := hide ((HS1.out.setE hn1 32769).setN ((n : Int) + 1))
    have HBB := hide ((((((Kept.refl (tch g ao c cap bk) w).setCell (p := ⟨g, 0, none⟩) (.inl (.inl rfl)) (.int .i64 (wrap64 (d + 1)))).drewN (nq + 1)).trans HB1.out).setCell (p := eAddr g (fun i => if i = c then w.heap.size else bk i) n) (.inr (by unfold eAddr; rw [if_neg (by omega)]; show w.heap.size ≤ (if (n - 32) / 1024 = c then w.heap.size else _); rw [if_pos (by omega)]; exact Nat.le_refl _)) (.int .u16 32769)).setCell (p := ⟨g, 1, none⟩) (.inl (.inl rfl)) (.int .i64 ((n : Int) + 1)))
    rw [World.frozen?_setCell] at fe fn1
    go_region_law (refine step_append_run rfl (.tmp 68) (.tmp 70) rfl rfl _ _ _ (by simp [Act.eval]) (by simp [Act.eval]) HAPP.out ?_)
    all_goals
      go_wp2_with fail
      refine (entry_any HS1.out hn1 (by omega)).mono ?_
      rintro e w2 ⟨rfl, hw⟩
      rw [hw]
      clear hw w2
      generalize eAddr g _ n = A at *
      go_wp2
      go_end0
      exact ⟨rfl, ⟨_, _, _, HF.out⟩, HBB.out⟩

/-! ### push, said once -/
/-- Does the count k join the top entry? -/
def joins (E : Nat → Int) (n : Nat) (k : Int) : Prop := k = 1 ∧ 0 < n ∧ 32768 ≤ E (n - 1) ∧ E (n - 1) ≠ 65535

/-- The stack behind push: how many entries, chunks, and what they hold. -/
def Pushed (E : Nat → Int) (n c : Nat) (k : Int) (E' : Nat → Int) (n' c' : Nat) : Prop :=
  (joins E n k ∧ n' = n ∧ c' = c ∧ ∀ j, j < 32 + 1024 * c → E' j = upd E (n - 1) (E (n - 1) + 1) j) ∨
  (¬ joins E n k ∧ n' = n + 1 ∧ c' = (if n = 32 + 1024 * c then c + 1 else c) ∧ ∀ j, j < 32 + 1024 * c' → E' j = upd (ext E c) n (newE k) j)

theorem push_any (w : World) (B g : Nat) (d : Int) (n : Nat) (E : Nat → Int) (ao : Option Addr) (c cap : Nat) (bk : Nat → Nat) (k : Int) (hn : n ≤ 32 + 1024 * c) (hc : c ≤ 65536) (hk1 : 1 ≤ k) (hk2 : k ≤ 32767)
    (hE : ∀ j, j < 32 + 1024 * c → 0 ≤ E j ∧ E j ≤ 65535) (H : Stk w B g d n E ao c cap bk) :
    Calls Try.prog 14 #[.pointer (some ⟨g, 0, none⟩), .int .i64 k] w fun e w' => e = .returned (.tuple #[]) ∧
      (∃ E' n' c' ao' cap' bk', Pushed E n c k E' n' c' ∧ Stk w' B g (wrap64 (d + 1)) ((n' : Nat) : Int) E' ao' c' cap' bk') ∧ Kept (tch g ao c cap bk) w w' := by
  by_cases hj : joins E n k
  · obtain ⟨rfl, h0, h1, h2⟩ := hj
    obtain ⟨m, rfl⟩ : ∃ m, n = m + 1 := ⟨n - 1, by omega⟩
    have hEm := (hE m (by omega)).2
    simp only [Nat.add_sub_cancel] at h1 h2
    refine (push_join w B g d m E ao c cap bk (by omega) hc h1 (by omega) (by simpa using H)).mono ?_
    rintro e w' ⟨rfl, hS, hb⟩
    refine ⟨rfl, ⟨_, m + 1, c, ao, cap, bk, .inl ⟨⟨rfl, h0, by simpa using h1, by simpa using h2⟩, rfl, rfl, fun j _ => rfl⟩, ?_⟩, hb⟩
    simpa using hS
  · by_cases hg : n = 32 + 1024 * c
    · by_cases hk : k = 1
      · subst hk
        have hj' : n = 0 ∨ E (n - 1) < 32768 ∨ E (n - 1) = 65535 := by
          unfold joins at hj
          by_cases h0 : n = 0
          · exact .inl h0
          · right
            by_cases h1 : E (n - 1) < 32768
            · exact .inl h1
            · right
              by_cases h2 : E (n - 1) = 65535
              · exact h2
              · exact absurd ⟨rfl, by omega, by omega, h2⟩ hj
        refine (push_grow_one w B g d n E ao c cap bk hg hc hE hj' H).mono ?_
        rintro e w' ⟨rfl, ⟨ao', cap', bk', hS⟩, hb⟩
        refine ⟨rfl, ⟨_, n + 1, c + 1, ao', cap', bk', .inr ⟨hj, rfl, by rw [if_pos hg], fun j _ => rfl⟩, ?_⟩, hb⟩
        simpa [newE] using hS
      · refine (push_grow_k w B g d n E ao c cap bk k hg hc (by omega) hk2 H).mono ?_
        rintro e w' ⟨rfl, ⟨ao', cap', bk', hS⟩, hb⟩
        refine ⟨rfl, ⟨_, n + 1, c + 1, ao', cap', bk', .inr ⟨hj, rfl, by rw [if_pos hg], fun j _ => rfl⟩, ?_⟩, hb⟩
        simpa [newE, hk] using hS
    · have hext : ∀ (x : Int) j, j < 32 + 1024 * c → upd E n x j = upd (ext E c) n x j := fun x j hj => by
        unfold upd ext
        rw [if_pos hj]
      by_cases hk : k = 1
      · subst hk
        have hj' : n = 0 ∨ E (n - 1) < 32768 ∨ E (n - 1) = 65535 := by
          unfold joins at hj
          by_cases h0 : n = 0
          · exact .inl h0
          · right
            by_cases h1 : E (n - 1) < 32768
            · exact .inl h1
            · right
              by_cases h2 : E (n - 1) = 65535
              · exact h2
              · exact absurd ⟨rfl, by omega, by omega, h2⟩ hj
        refine (push_room_one w B g d n E ao c cap bk (by omega) hc hE hj' H).mono ?_
        rintro e w' ⟨rfl, hS, hb⟩
        refine ⟨rfl, ⟨upd (ext E c) n (newE 1), n + 1, c, ao, cap, bk, .inr ⟨hj, rfl, by rw [if_neg hg], fun j _ => rfl⟩, ?_⟩, hb⟩
        have := hS.congr (hext 32769)
        simpa [newE] using this
      · refine (push_room_k w B g d n E ao c cap bk k (by omega) hc (by omega) hk2 H).mono ?_
        rintro e w' ⟨rfl, hS, hb⟩
        refine ⟨rfl, ⟨upd (ext E c) n (newE k), n + 1, c, ao, cap, bk, .inr ⟨hj, rfl, by rw [if_neg hg], fun j _ => rfl⟩, ?_⟩, hb⟩
        have := hS.congr (hext k)
        simpa [newE, hk] using this

end Go.Proofs.Qxb6604049a
