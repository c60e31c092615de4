/-
  A slice of declarations as the reader gives it, for the two laws on binds.
-/
import Derived.Test.Qxb6604025aRows
import Derived.Test.Qxb6604025aScope
import Derived.WalkKit
import Derived.ProofKit
import Derived.OpenShut
import Derived.ShutString
import Derived.ChangeOld
import Derived.Below
import Derived.Deep.SlicePairs
namespace Go.Proofs.Qxb6604025a
open Go.ChangeShapes Go.WideShapes Go.ChangeAt Go.RowKit

theorem own : ownKnob Try.prog.godebug = none := by kernel_rfl
theorem laidOut : laidOutB Try.prog = true := by kernel_rfl

theorem addr_of {w : World} {a : Addr} {v : Value} (h : w.cell? a = some v) : ∃ b o, a = ⟨b, o, none⟩ ∧ b < w.heap.size := by
  obtain ⟨b, o, s⟩ := a
  have hb : b < w.heap.size := by
    unfold World.cell? at h
    split at h
    · rename_i hh; exact (Array.getElem?_eq_some_iff.1 hh).1
    · cases h
  cases s with
  | none => exact ⟨b, o, rfl, hb⟩
  | some x =>
    unfold World.cell? at h
    split at h <;> simp at h

theorem open_decls {H : Type} {enc : TypeId × Value → H} {W : World} {a : Option Addr} {len cap : Nat} {d : DataW H} {p : List MemPlace}
    (h : DataW.Trod enc Try.prog W 0 (fun _ => true) true 32 (.slice a len cap) d p) : (a = none → len = 0 ∧ cap = 0) ∧ ∃ Pf Ns : Nat → ByteArray, Decls W a len Pf Ns := by
  obtain ⟨fuel, hf⟩ := h
  rcases Deep.open_slice_pairs Try.underlying32 Try.underlying51 (by kernel_rfl) rfl rfl (by kernel_rfl) (by kernel_rfl) hf with ⟨hcs, _⟩ | ⟨x, l, c, m, n, V0, V1, D0, D1, P0, P1, hcs, _, hl, _, hm, _, hx⟩
  · simp [Value.cells] at hcs
    obtain ⟨rfl, rfl, rfl⟩ := hcs
    exact ⟨fun _ => ⟨rfl, rfl⟩, fun _ => ⟨#[]⟩, fun _ => ⟨#[]⟩, .inl rfl⟩
  · simp [Value.cells] at hcs
    obtain ⟨rfl, rfl, rfl⟩ := hcs
    simp only [if_true] at hm
    have each : ∀ i, i < len → ∃ s : ByteArray × ByteArray, W.cell? (x.add (i * 2)) = some (.string s.1) ∧ W.cell? (x.add (i * 2 + 1)) = some (.string s.2) := by
      intro i hi
      obtain ⟨h1, h2, h3, h4⟩ := hx i (by omega)
      obtain ⟨s0, e0, _, _⟩ := DataW.trod_string Try.underlying9 h3
      obtain ⟨s1, e1, _, _⟩ := DataW.trod_string Try.underlying9 h4
      simp at e0 e1
      exact ⟨(s0, s1), by rw [h1, e0], by rw [h2, e1]⟩
    obtain ⟨S, hS⟩ := Deep.choose_lt each
    refine ⟨fun h => (by cases h), fun i => (S i).1, fun i => (S i).2, ?_⟩
    by_cases h0 : len = 0
    · exact .inl h0
    have e0 : x.add 0 = x := by simp [Addr.add]
    obtain ⟨b, o, rfl, hb⟩ := addr_of (by have := (hS 0 (by omega)).1; rw [Nat.zero_mul, e0] at this; exact this)
    refine .inr ⟨b, o, rfl, hb, fun i hi => ?_⟩
    obtain ⟨h1, h2⟩ := hS i hi
    rw [Addr.add_lit] at h1 h2
    exact ⟨h1, by rw [Nat.add_assoc]; exact h2⟩

end Go.Proofs.Qxb6604025a
