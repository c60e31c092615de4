import Derived.Test.Qxb6604025aCloneD
namespace Go.Proofs.Qxb6604025a
open Go.RowKit

set_option maxRecDepth 100000 in
set_option maxHeartbeats 2000000 in
/-- The law. -/
theorem inner_any (a : Option Addr) (k C : Nat) (Pf Ns : Nat → ByteArray) (p n : ByteArray) (w : World) (hnil : a = none → k = 0 ∧ C = 0) (hD : Decls w a k Pf Ns) :
    Calls Try.prog 5 #[.slice a k C, .string p, .string n] w fun e w' => e = .returned (.bool true) ∧ Below w.heap.size w w' := by
  have HD := hide hD
  have HN := hide hnil
  clear hD hnil
  go_enter Try.func5, Try.ntmps5
  go_wp2_with fail
  refine (bytes16_any a k C Pf Ns p n _ HD.out).mono ?_
  rintro e w1 ⟨⟨r, rfl⟩, hw1⟩
  rw [hw1]
  clear hw1 w1
  cases r
  · go_wp2
    go_ret
    exact ⟨rfl, Below.refl _ _⟩
  rcases Nat.lt_or_ge 65536 k with h0 | h0
  · go_wp2
    all_goals
      go_ret
      exact ⟨rfl, Below.refl _ _⟩
  rcases Nat.lt_or_ge 1048576 p.size with h1 | h1
  · go_wp2
    all_goals
      go_ret
      exact ⟨rfl, Below.refl _ _⟩
  rcases Nat.lt_or_ge 1048576 n.size with h2 | h2
  · go_wp2
    all_goals
      go_ret
      exact ⟨rfl, Below.refl _ _⟩
  go_wp2_with fail
  refine (declBytes_any a k C Pf Ns _ h0 HD.out).mono ?_
  rintro e w1 ⟨⟨r, hr0, hr1, rfl⟩, q1, rfl⟩
  by_cases hsum : 1048576 < r + p.size + n.size
  · go_wp2
    go_ret
    exact ⟨rfl, bdrewN (Below.refl _ _) _⟩
  go_wp2_with fail
  refine (cloneDecls_any a k C Pf Ns _ h0 HN.out (show Decls (w.drewN q1) a k Pf Ns from HD.out)).mono ?_
  rintro e w2 ⟨a2, C2, rfl, hd2, hb2⟩
  have D2 := hide hd2
  have B2 := hide ((bdrewN (Below.refl w.heap.size w) q1).trans hb2)
  clear hd2 hb2
  go_wp2_with fail
  refine (build_any a2 k C2 Pf Ns _ (by omega) D2.out).mono ?_
  rintro e w3 ⟨s, rfl, hc3, hb3⟩
  have C3 := hide hc3
  have D3 := hide (D2.out.below hb3)
  have B3 := hide (B2.out.trans (hb3.mono B2.out.size))
  clear hc3 hb3
  go_wp2_with fail
  refine (zzbinds_any p n (lastL k Pf Ns k) s _ C3.out).mono ?_
  rintro e w5 ⟨rfl, hw⟩
  rw [hw]
  clear hw w5
  go_wp2_with fail
  refine (model_any a2 k C2 Pf Ns p n _ (by omega) D3.out).mono ?_
  rintro e w5 ⟨rfl, hw⟩
  rw [hw]
  clear hw w5
  generalize bindsL p n (lastL k Pf Ns k) = b
  cases b
  · go_wp2
    go_ret
    exact ⟨rfl, B3.out⟩
  · go_wp2
    go_ret
    exact ⟨rfl, B3.out⟩

end Go.Proofs.Qxb6604025a
