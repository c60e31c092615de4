import Derived.Test.Qxb6604025aCloneD
namespace Go.Proofs.Qxb6604025a
open Go.RowKit

theorem Decls.drewN {w : World} {a : Option Addr} {n : Nat} {Pf Ns : Nat → ByteArray} (h : Decls w a n Pf Ns) (q : Nat) : Decls (w.drewN q) a n Pf Ns := h

theorem binds_push_same (p n : ByteArray) (l : List (ByteArray × ByteArray)) : bindsL p n ((p, n) :: l) = true := by simp [bindsL]
theorem binds_push_val (p n m : ByteArray) (l : List (ByteArray × ByteArray)) : bindsL p m ((p, n) :: l) = (m.toList == n.toList) := by
  simp only [bindsL, beq_self_eq_true, if_true]
  rw [Bool.eq_iff_iff, beq_iff_eq, beq_iff_eq]
  exact ⟨fun h => h.symm, fun h => h.symm⟩
theorem binds_push_other (p n q m : ByteArray) (l : List (ByteArray × ByteArray)) (h : (q.toList == p.toList) = false) : bindsL q m ((p, n) :: l) = bindsL q m l := by
  have h' : (p.toList == q.toList) = false := by
    rw [beq_eq_false_iff_ne] at h ⊢
    exact fun e => h e.symm
  simp [bindsL, h']

set_option maxRecDepth 100000 in
set_option maxHeartbeats 2000000 in
/-- The law. -/
theorem pushed_any (a : Option Addr) (k C : Nat) (Pf Ns : Nat → ByteArray) (p n q m : ByteArray) (w : World) (hnil : a = none → k = 0 ∧ C = 0) (hD : Decls w a k Pf Ns) :
    Calls Try.prog 6 #[.slice a k C, .string p, .string n, .string q, .string m] w fun e w' => e = .returned (.bool true) ∧ Below w.heap.size w w' := by
  have HD := hide hD
  have HN := hide hnil
  clear hD hnil
  go_enter Try.func6, Try.ntmps6
  go_wp2_with fail
  refine (bytes22_any a k C Pf Ns p n q m _ HD.out).mono ?_
  rintro e w1 ⟨⟨r, rfl⟩, hw1⟩
  rw [hw1]
  clear hw1 w1
  cases r
  · go_wp2
    go_ret
    exact ⟨rfl, Below.refl _ _⟩
  rcases Nat.lt_or_ge 65536 k with h0 | h0
  · go_wp2
    all_goals
      go_ret
      exact ⟨rfl, Below.refl _ _⟩
  rcases Nat.lt_or_ge 1048576 p.size with h1 | h1
  · go_wp2
    all_goals
      go_ret
      exact ⟨rfl, Below.refl _ _⟩
  rcases Nat.lt_or_ge 1048576 n.size with h2 | h2
  · go_wp2
    all_goals
      go_ret
      exact ⟨rfl, Below.refl _ _⟩
  rcases Nat.lt_or_ge 1048576 q.size with h3 | h3
  · go_wp2
    all_goals
      go_ret
      exact ⟨rfl, Below.refl _ _⟩
  rcases Nat.lt_or_ge 1048576 m.size with h4 | h4
  · go_wp2
    all_goals
      go_ret
      exact ⟨rfl, Below.refl _ _⟩
  go_wp2_with fail
  refine (declBytes_any a k C Pf Ns _ h0 HD.out).mono ?_
  rintro e w1 ⟨⟨r, hr0, hr1, rfl⟩, q1, rfl⟩
  by_cases hsum : 1048576 < r + p.size + n.size + q.size + m.size
  · go_wp2
    go_ret
    exact ⟨rfl, bdrewN (Below.refl _ _) _⟩
  go_wp2_with fail
  refine (cloneDecls_any a k C Pf Ns _ h0 HN.out (HD.out.drewN q1)).mono ?_
  rintro e w2 ⟨a2, C2, rfl, hd2, hb2⟩
  have D2 := hide hd2
  have B2 := hide ((bdrewN (Below.refl w.heap.size w) q1).trans hb2)
  clear hd2 hb2
  go_wp2_with fail
  refine (build_any a2 k C2 Pf Ns _ (by omega) D2.out).mono ?_
  rintro e w3 ⟨s, rfl, hc3, hb3⟩
  have C3 := hide hc3
  have B3 := hide (B2.out.trans (hb3.mono B2.out.size))
  clear hc3 hb3
  go_wp2_with fail
  refine (newScope_any p n (lastL k Pf Ns k) s _ C3.out).mono ?_
  rintro e w4 ⟨t, rfl, hc4, hb4⟩
  have C4 := hide hc4
  have C5 := hide (Chain.below hb4 C3.out)
  have B4 := hide (B3.out.trans (hb4.mono B3.out.size))
  clear hc4 hb4
  generalize lastL k Pf Ns k = l at *
  go_wp2_with fail
  refine (zzbinds_any p n ((p, n) :: l) t _ C4.out).mono ?_
  rintro e w5 ⟨rfl, hw⟩
  rw [hw, binds_push_same]
  clear hw w5
  go_wp2_with fail
  · go_ret
    exact ⟨rfl, B4.out⟩
  · have hq : ¬ q.toList = p.toList := by assumption
    refine (zzbinds_any q m ((p, n) :: l) t _ C4.out).mono ?_
    rintro e w5 ⟨rfl, hw⟩
    rw [hw, binds_push_other p n q m l (by simpa using hq)]
    clear hw w5
    go_wp2_with fail
    refine (zzbinds_any q m l s _ C5.out).mono ?_
    rintro e w5 ⟨rfl, hw⟩
    rw [hw]
    clear hw w5
    generalize bindsL q m l = b
    cases b
    · go_wp2
      go_ret
      exact ⟨rfl, B4.out⟩
    · go_wp2
      go_ret
      exact ⟨rfl, B4.out⟩
  · have hm : ¬ m.toList = n.toList := by assumption
    refine (zzbinds_any p m ((p, n) :: l) t _ C4.out).mono ?_
    rintro e w5 ⟨rfl, hw⟩
    rw [hw, binds_push_val p n m l, show (m.toList == n.toList) = false from by simpa using hm]
    clear hw w5
    go_wp2_with fail
    · go_ret
      exact ⟨rfl, B4.out⟩
    · have hq : ¬ q.toList = p.toList := by assumption
      refine (zzbinds_any q m ((p, n) :: l) t _ C4.out).mono ?_
      rintro e w5 ⟨rfl, hw⟩
      rw [hw, binds_push_other p n q m l (by simpa using hq)]
      clear hw w5
      go_wp2_with fail
      refine (zzbinds_any q m l s _ C5.out).mono ?_
      rintro e w5 ⟨rfl, hw⟩
      rw [hw]
      clear hw w5
      generalize bindsL q m l = b
      cases b
      · go_wp2
        go_ret
        exact ⟨rfl, B4.out⟩
      · go_wp2
        go_ret
        exact ⟨rfl, B4.out⟩

end Go.Proofs.Qxb6604025a
