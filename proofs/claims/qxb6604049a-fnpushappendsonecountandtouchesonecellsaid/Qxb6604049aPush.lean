import Derived.Test.Qxb6604049aStk
import Derived.Deep.DeepCutAuto
namespace Go.Proofs.Qxb6604049a
open Go.RowKit

set_option maxHeartbeats 400000 in
/-- push: a 1 joins a run of ones. -/
theorem push_join (w : World) (B g : Nat) (d : Int) (m : Nat) (E : Nat → Int) (ao : Option Addr) (c cap : Nat) (bk : Nat → Nat) (hm : m < 32 + 1024 * c) (hc : c ≤ 65536)
    (h1 : 32768 ≤ E m) (h2 : E m ≤ 65534) (H : Stk w B g d ((m : Int) + 1) E ao c cap bk) :
    Calls Try.prog 14 #[.pointer (some ⟨g, 0, none⟩), .int .i64 1] w fun e w' => e = .returned (.tuple #[]) ∧ Stk w' B g (wrap64 (d + 1)) ((m : Int) + 1) (upd E m (E m + 1)) ao c cap bk ∧ Kept (tch g ao c cap bk) w w' := by
  have cd := H.cd
  have cn := H.cn
  have f0 := H.fz 0
  have f1 := H.fz 1
  have hb : bits .and .u16 (E m) 32768 = 32768 := by rw [and_run _ (by omega) (by omega), if_pos h1]
  have HS := hide H
  have ce := ((H.setD (wrap64 (d + 1))).entry hm).1
  have fe := (H.entry hm).2
  clear H
  go_enter Try.func14, Try.ntmps14
  go_wp2_with fail
  refine (entry_any (HS.out.setD _) hm (by omega)).mono ?_
  rintro e w1 ⟨rfl, hw⟩
  rw [hw]
  clear hw w1
  generalize hA : eAddr g bk m = A at *
  have HA := hide hA
  clear hA
  go_wp2
  refine bodyPost_ret (results_none rfl _ _ _) rfl ?_
  refine ⟨rfl, ?_, ?_⟩
  · rw [← HA.out]; exact (HS.out.setD _).setE hm _
  · have hB := HS.out.eT hm
    rw [HA.out] at hB
    exact ((Kept.refl _ _).setCell (.inl (.inl rfl)) _).setCell (.inl hB) _

/-- A new entry: what is written. -/
def newE (k : Int) : Int := if k = 1 then 32769 else k

set_option maxHeartbeats 1000000 in
/-- push: a new entry above 1, there is a cell. -/
theorem push_room_k (w : World) (B g : Nat) (d : Int) (n : Nat) (E : Nat → Int) (ao : Option Addr) (c cap : Nat) (bk : Nat → Nat) (k : Int) (hn : n < 32 + 1024 * c) (hc : c ≤ 65536) (hk1 : 2 ≤ k) (hk2 : k ≤ 32767)
    (H : Stk w B g d n E ao c cap bk) :
    Calls Try.prog 14 #[.pointer (some ⟨g, 0, none⟩), .int .i64 k] w fun e w' => e = .returned (.tuple #[]) ∧ Stk w' B g (wrap64 (d + 1)) ((n : Int) + 1) (upd E n k) ao c cap bk ∧ Kept (tch g ao c cap bk) w w' := by
  have cd := H.cd
  have cn := H.cn
  have cc := H.cc
  have f0 := H.fz 0
  have f1 := H.fz 1
  have HS := hide H
  have ce := ((H.setD (wrap64 (d + 1))).entry hn).1
  have fe := (H.entry hn).2
  clear H
  have hz : (k == 1) = false := beq_eq_false_iff_ne.2 (by omega)
  by_cases h32 : 32 ≤ n
  · have hg : ((n : Int) - 32 == (c : Int) * 1024) = false := beq_eq_false_iff_ne.2 (by omega)
    have hg0 : decide ((32 : Int) ≤ (n : Int)) = true := by simp; omega
    go_enter Try.func14, Try.ntmps14
    go_wp2
    go_quiet (fail)
    go_wp2_with fail
    refine (entry_any ((HS.out.setD _).drewN _) hn (by omega)).mono ?_
    rintro e w1 ⟨rfl, hw⟩
    rw [hw]
    clear hw w1
    have cn2 := (((HS.out.setD (wrap64 (d + 1))).drewN nq).setE hn k).cn
    have HB := hide (HS.out.eT hn)
    have HF := hide ((((HS.out.setD (wrap64 (d + 1))).drewN nq).setE hn k).setN ((n : Int) + 1))
    clear HS
    generalize eAddr g bk n = A at *
    go_wp2
    go_end0
    exact ⟨rfl, HF.out, ((((Kept.refl _ _).setCell (.inl (.inl rfl)) _).drewN nq).setCell (.inl HB.out) _).setCell (.inl (.inl rfl)) _⟩
  · have hg : decide ((32 : Int) ≤ (n : Int)) = false := by simp; omega
    go_enter Try.func14, Try.ntmps14
    go_wp2
    go_quiet (fail)
    go_wp2_with fail
    refine (entry_any ((HS.out.setD _).drewN _) hn (by omega)).mono ?_
    rintro e w1 ⟨rfl, hw⟩
    rw [hw]
    clear hw w1
    have cn2 := (((HS.out.setD (wrap64 (d + 1))).drewN nq).setE hn k).cn
    have HB := hide (HS.out.eT hn)
    have HF := hide ((((HS.out.setD (wrap64 (d + 1))).drewN nq).setE hn k).setN ((n : Int) + 1))
    clear HS
    generalize eAddr g bk n = A at *
    go_wp2
    go_end0
    exact ⟨rfl, HF.out, ((((Kept.refl _ _).setCell (.inl (.inl rfl)) _).drewN nq).setCell (.inl HB.out) _).setCell (.inl (.inl rfl)) _⟩

set_option maxRecDepth 100000 in
set_option maxHeartbeats 1000000 in
/-- push: a 1 that joins no run, there is a cell. -/
theorem push_room_one (w : World) (B g : Nat) (d : Int) (n : Nat) (E : Nat → Int) (ao : Option Addr) (c cap : Nat) (bk : Nat → Nat) (hn : n < 32 + 1024 * c) (hc : c ≤ 65536)
    (hE : ∀ j, j < 32 + 1024 * c → 0 ≤ E j ∧ E j ≤ 65535) (hj : n = 0 ∨ E (n - 1) < 32768 ∨ E (n - 1) = 65535) (H : Stk w B g d n E ao c cap bk) :
    Calls Try.prog 14 #[.pointer (some ⟨g, 0, none⟩), .int .i64 1] w fun e w' => e = .returned (.tuple #[]) ∧ Stk w' B g (wrap64 (d + 1)) ((n : Int) + 1) (upd E n 32769) ao c cap bk ∧ Kept (tch g ao c cap bk) w w' := by
  have cd := H.cd
  have cn := H.cn
  have cc := H.cc
  have f0 := H.fz 0
  have f1 := H.fz 1
  have HS := hide H
  have HE := hide hE
  have HJ := hide hj
  clear H hE hj
  go_enter Try.func14, Try.ntmps14
  go_upto_if 21 with fail
  go_cut [] (fun wc => wc = w.setCell ⟨g, 0, none⟩ (.int .i64 (wrap64 (d + 1))))
  case first =>
    rcases Nat.eq_zero_or_pos n with h0 | h0
    · subst h0
      go_wp2
      go_meet
      case rel => rfl
    obtain ⟨m, rfl⟩ : ∃ m, n = m + 1 := ⟨n - 1, by omega⟩
    have hm : m < 32 + 1024 * c := by omega
    have ce := ((HS.out.setD (wrap64 (d + 1))).entry hm).1
    have fe := (HS.out.entry hm).2
    obtain ⟨e1, e2⟩ := HE.out m hm
    have hjm : E m < 32768 ∨ E m = 65535 := by
      rcases HJ.out with h | h
      · omega
      · simpa using h
    have HJM := hide hjm
    clear hjm
    go_wp2_with fail
    refine (entry_any (HS.out.setD _) hm (by omega)).mono ?_
    rintro e w1 ⟨rfl, hw⟩
    rw [hw]
    clear hw w1
    generalize eAddr g bk m = A at *
    rcases HJM.out with h | h
    · have hb : bits .and .u16 (E m) 32768 = 0 := by rw [and_run _ e1 e2, if_neg (by omega)]
      go_wp2
      go_meet
      case rel => rfl
    · have hb : bits .and .u16 (E m) 32768 = 32768 := by rw [and_run _ e1 e2, if_pos (by omega)]
      have hf : (E m != 65535) = false := by simp [h]
      clear h
      go_wp2
      go_meet
      case rel => rfl
  case rest =>
    subst hcut
    have ce := ((HS.out.setD (wrap64 (d + 1))).entry hn).1
    have fe := (HS.out.entry hn).2
    by_cases h32 : 32 ≤ n
    · have hg : ((n : Int) - 32 == (c : Int) * 1024) = false := beq_eq_false_iff_ne.2 (by omega)
      have hg0 : decide ((32 : Int) ≤ (n : Int)) = true := by simp; omega
      go_wp2
      go_quiet (fail)
      go_wp2_with fail
      refine (entry_any ((HS.out.setD _).drewN _) hn (by omega)).mono ?_
      rintro e w1 ⟨rfl, hw⟩
      rw [hw]
      clear hw w1
      have cn2 := (((HS.out.setD (wrap64 (d + 1))).drewN nq).setE hn 32769).cn
      have HB := hide (HS.out.eT hn)
      have HF := hide ((((HS.out.setD (wrap64 (d + 1))).drewN nq).setE hn 32769).setN ((n : Int) + 1))
      clear HS
      generalize eAddr g bk n = A at *
      go_wp2
      go_end0
      exact ⟨rfl, HF.out, ((((Kept.refl _ _).setCell (.inl (.inl rfl)) _).drewN nq).setCell (.inl HB.out) _).setCell (.inl (.inl rfl)) _⟩
    · have hg : decide ((32 : Int) ≤ (n : Int)) = false := by simp; omega
      go_wp2
      go_quiet (fail)
      go_wp2_with fail
      refine (entry_any ((HS.out.setD _).drewN _) hn (by omega)).mono ?_
      rintro e w1 ⟨rfl, hw⟩
      rw [hw]
      clear hw w1
      have cn2 := (((HS.out.setD (wrap64 (d + 1))).drewN nq).setE hn 32769).cn
      have HB := hide (HS.out.eT hn)
      have HF := hide ((((HS.out.setD (wrap64 (d + 1))).drewN nq).setE hn 32769).setN ((n : Int) + 1))
      clear HS
      generalize eAddr g bk n = A at *
      go_wp2
      go_end0
      exact ⟨rfl, HF.out, ((((Kept.refl _ _).setCell (.inl (.inl rfl)) _).drewN nq).setCell (.inl HB.out) _).setCell (.inl (.inl rfl)) _⟩

end Go.Proofs.Qxb6604049a
