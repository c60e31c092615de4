import Derived.Test.Qxb6604049aRows
import Derived.WalkKit
import Derived.WalkSpells
import Derived.WalkLawsBesides
import Derived.Deep.OwnRows
import Derived.Deep.QuietTactic
import Derived.Deep.AppendLies
import Derived.Deep.MidRow
import Derived.BigQuiet
namespace Go.Proofs.Qxb6604049a
open Go.RowKit

theorem hide {p : Prop} (h : p) : Hid p := h
theorem bdrewN {B : Nat} {a w : World} (h : Below B a w) (q : Nat) : Below B a (w.drewN q) := ⟨h.os, h.tape, h.output, h.size, h.block⟩
theorem info22 : (Try.prog.info? 22).map (fun i => (i.zero, i.size, i.bytes)) = some (some (.int .u16 0), 1, 2) := by kernel_rfl
theorem info26 : (Try.prog.info? 26).map (fun i => (i.zero, i.size, i.bytes)) = some (some (.slice none 0 0), 1, 24) := by kernel_rfl

/-! ### the bit that marks a run -/
theorem nat_run (e : Nat) (h : e < 65536) : e &&& 32768 = if 32768 ≤ e then 32768 else 0 := by
  have := nat_bit 15 e
  rw [show (2 : Nat) ^ 15 = 32768 by decide] at this
  rw [this]
  split <;> omega
theorem and_run (e : Int) (h0 : 0 ≤ e) (h1 : e ≤ 65535) : bits .and .u16 e 32768 = if 32768 ≤ e then 32768 else 0 := by
  rw [u16_and e 32768 h0 (by omega) (by omega) (by omega), show (32768 : Int).toNat = 32768 from rfl, nat_run _ (by omega)]
  split <;> split <;> omega
theorem nat_low (e : Nat) (h : e < 65536) : e &&& 32767 = if 32768 ≤ e then e - 32768 else e := by
  have := Nat.and_two_pow_sub_one_eq_mod e 15
  rw [show (2 : Nat) ^ 15 = 32768 by decide, show 32768 - 1 = 32767 by decide] at this
  rw [this]
  split <;> omega
theorem andNot_run (e : Int) (h0 : 0 ≤ e) (h1 : e ≤ 65535) : bits .andNot .u16 e 32768 = if 32768 ≤ e then e - 32768 else e := by
  rw [u16_andNot e 32768 h0 (by omega) (by omega) (by omega), show (65535 - (32768 : Int).toNat) = 32767 from rfl, nat_low _ (by omega)]
  split <;> split <;> omega

/-! ### the stack in memory -/
/-- The 35 cells of an openGroups. -/
def gCell (d n : Int) (E : Nat → Int) (v : Value) (j : Nat) : Value := if j = 0 then .int .i64 d else if j = 1 then .int .i64 n else if j < 34 then .int .u16 (E (j - 2)) else v

/-- The chunks: the outer slice owns its row from block B on; each chunk is a row of 1024. -/
structure Chunks (w : World) (B : Nat) (ao : Option Addr) (c cap : Nat) (bk : Nat → Nat) (E : Nat → Int) : Prop where
  own : w.ownsRow B 26 1 (.slice ao c cap) c ((List.range c).map fun i => .slice (some ⟨bk i, 0, none⟩) 1024 1024)
  rows : ∀ i, i < c → w.rowIs (bk i) 22 1024 (fun j => .int .u16 (E (32 + 1024 * i + j)))
  ge : ∀ i, i < c → B ≤ bk i
  inj : ∀ i j, i < c → j < c → bk i = bk j → i = j
  out : ∀ i, i < c → (Value.slice ao c cap).ownBlock ≠ some (bk i)

/-- The outer slice's row: where it lies, and its cells. -/
theorem Chunks.outer {w : World} {B : Nat} {ao : Option Addr} {c cap : Nat} {bk : Nat → Nat} {E : Nat → Int} (h : Chunks w B ao c cap bk E) (hc : 0 < c) :
    ∃ bo, ao = some ⟨bo, 0, none⟩ ∧ B ≤ bo ∧ bo < w.heap.size ∧ ∀ i, i < c → w.cell? ⟨bo, i, none⟩ = some (.slice (some ⟨bk i, 0, none⟩) 1024 1024) := by
  obtain ⟨h1, h2⟩ := h.own
  rcases h2 with ⟨_, h0⟩ | ⟨g, cap', cur, hv, hb, hg, hn, hm, hs, ht⟩
  · omega
  · simp only [Value.slice.injEq] at hv
    obtain ⟨rfl, _, rfl⟩ := hv
    refine ⟨g, rfl, hb, (Array.getElem?_eq_some_iff.1 hg).1, fun i hi => ?_⟩
    have e1 : cur[i]? = ((List.range c).map fun i => Value.slice (some ⟨bk i, 0, none⟩) 1024 1024)[i]? := by
      rw [← ht, List.getElem?_take_of_lt (by omega)]
      simp
    rw [cell_of_row w g i cur 26 (0, 0) hg, e1]
    simp [hi]

/-- Where entry i lies. -/
def eAddr (g : Nat) (bk : Nat → Nat) (i : Nat) : Addr := if i < 32 then ⟨g, 2 + i, none⟩ else ⟨bk ((i - 32) / 1024), (i - 32) % 1024, none⟩

set_option maxHeartbeats 400000 in
/-- (*openGroups).entry below 32. -/
theorem entry_first (g i : Nat) (hi : i < 32) (w : World) :
    Calls Try.prog 15 #[.pointer (some ⟨g, 0, none⟩), .int .i64 i] w fun e w' => e = .returned (.pointer (some ⟨g, 2 + i, none⟩)) ∧ w' = w := by
  go_enter Try.func15, Try.ntmps15
  go_wp2
  go_ret
  exact ⟨rfl, rfl⟩

set_option maxHeartbeats 400000 in
/-- (*openGroups).entry from 32 on. -/
theorem entry_chunk (g i B c cap : Nat) (ao : Option Addr) (bk : Nat → Nat) (E : Nat → Int) (hi : 32 ≤ i) (hic : i < 32 + 1024 * c) (hc : c ≤ 1048576) (w : World) (hg : w.cell? ⟨g, 34, none⟩ = some (.slice ao c cap)) (hC : Chunks w B ao c cap bk E) :
    Calls Try.prog 15 #[.pointer (some ⟨g, 0, none⟩), .int .i64 i] w fun e w' => e = .returned (.pointer (some ⟨bk ((i - 32) / 1024), (i - 32) % 1024, none⟩)) ∧ w' = w := by
  obtain ⟨bo, rfl, _, _, hcell⟩ := hC.outer (by omega)
  have c1 := hcell ((i - 32) / 1024) (by omega)
  clear hcell hC
  go_enter Try.func15, Try.ntmps15
  go_wp2
  go_ret
  exact ⟨rfl, rfl⟩

end Go.Proofs.Qxb6604049a
