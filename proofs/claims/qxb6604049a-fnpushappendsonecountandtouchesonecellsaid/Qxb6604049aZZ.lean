import Derived.Test.Qxb6604049aPushG
import Derived.Deep.RegionHeld3
import Derived.Deep.WholeRow
namespace Go.Proofs.Qxb6604049a
open Go.RowKit

/-- The 32 cells held in place. -/
def first32 (E : Nat → Int) : List Value := (List.range 32).map fun i => .int .u16 (E i)
theorem first32_length (E : Nat → Int) : (first32 E).length = 32 := by simp [first32]
theorem first32_one (E : Nat → Int) : ∀ v ∈ first32 E, v.oneCell' = true := by
  intro v hv
  obtain ⟨i, _, rfl⟩ := List.mem_map.1 hv
  rfl
theorem info23 : (Try.prog.info? 23).map (·.size) = some 32 := by kernel_rfl
theorem info39 : (Try.prog.info? 39).map (·.size) = some 35 := by kernel_rfl

/-- The 35 cells of an openGroups. -/
def groups (d n : Value) (cs : List Value) (v : Value) : Array Value := (d :: n :: (cs ++ [v])).toArray

set_option maxRecDepth 100000 in
theorem run_build (w : World) (d n : Int) (ao : Option Addr) (c cap : Nat) : ∀ (cs : List Value), cs.length = 32 → (Instr.build 39 #[(0, .int .i64 d), (1, .int .i64 n), (2, .agg cs.toArray), (3, .slice ao c cap)]).run Try.prog w = .ok (.agg (groups (.int .i64 d) (.int .i64 n) cs (.slice ao c cap))) w
  | [a0, a1, a2, a3, a4, a5, a6, a7, a8, a9, a10, a11, Z, a13, a14, a15, a16, a17, a18, a19, a20, a21, a22, a23, a24, a25, a26, a27, a28, a29, a30, a31], _ => by kernel_rfl

/-- 'openGroups{..}' at the list of a plain region's operations. -/
theorem wpList_build39 {ops : Array Oper} {rest : List Oper} {o : Oper} {a : Act} {w : World} {Q : Exit → Act → World → Prop} (hgd : o.guard = none) (x0 x1 x2 x3 : Operand) (ho : o.op = .build 39 #[(0, x0), (1, x1), (2, x2), (3, x3)])
    (d n : Int) (ao : Option Addr) (c cap : Nat) (cs : List Value) (hcs : cs.length = 32) (h0 : a.eval x0 = .int .i64 d) (h1 : a.eval x1 = .int .i64 n) (h2 : a.eval x2 = .agg cs.toArray) (h3 : a.eval x3 = .slice ao c cap)
    (h : wpList Try.prog ops Q rest (a.put o.dst (.agg (groups (.int .i64 d) (.int .i64 n) cs (.slice ao c cap)))) w) : wpList Try.prog ops Q (o :: rest) a w := by
  refine wpList_plain hgd fun K hK => ?_
  have hr := run_build w d n ao c cap cs hcs
  unfold Oper.wp execOp
  simp only [ho, h0, h1, h2, h3, List.map_toArray, List.map_cons, List.map_nil, Sem.run_bind, hr, Sem.run_pure, Result.andThen_ok]
  exact hK _ _ h

theorem _root_.Go.World.rangeAt_of_new (w : World) (cs : List Value) (t : TypeId) : (w.alloc (.cells cs.toArray t)).rangeAt w.heap.size 0 cs := fun j v hv => by
  rw [Nat.zero_add, cell_of_row _ _ j cs.toArray t (0, 0) (heap_alloc_last w _)]
  simpa using hv

/-- A whole struct into the block that was made last. -/
theorem wpList_store_new {P : Program} {ops : Array Oper} {rest : List Oper} {o : Oper} {a : Act} {W : World} {Q : Exit → Act → World → Prop} (hgd : o.guard = none) (t : TypeId) (x y : Operand) (ho : o.op = .store t x y)
    (c c' : Array Value) (b : Nat) (hb : W.heap.size = b) (hx : a.eval x = .pointer (some ⟨b, 0, none⟩)) (hy : a.eval y = .agg c') (hi : (P.info? t).map (·.size) = some c'.size) (hsz : c.size = c'.size) (h1 : c'.all (·.oneCell') = true)
    (h : wpList P ops Q rest (a.put o.dst undef) (W.alloc (.cells c' t))) : wpList P ops Q (o :: rest) a (W.alloc (.cells c t)) := by
  refine wpList_plain hgd fun K hK => ?_
  subst hb
  have hr := run_storeAt_new (P := P) W t c c' hi hsz h1
  unfold Oper.wp execOp
  simp only [ho, hx, hy, Sem.run_bind, hr, Sem.run_pure, Result.andThen_ok]
  exact hK _ _ h

theorem groups_size (d n v : Value) (cs : List Value) (h : cs.length = 32) : (groups d n cs v).size = 35 := by simp [groups, h]
theorem groups_one (d n : Int) (ao : Option Addr) (c cap : Nat) (cs : List Value) (h : ∀ v ∈ cs, v.oneCell' = true) : (groups (.int .i64 d) (.int .i64 n) cs (.slice ao c cap)).all (·.oneCell') = true := by
  unfold groups
  refine all_oneCell_toArray (fun v hv => ?_)
  simp only [List.mem_cons, List.mem_append, List.not_mem_nil, or_false] at hv
  rcases hv with rfl | rfl | hv | rfl
  · rfl
  · rfl
  · exact h v hv
  · rfl

/-- The chunks stay while their own blocks do. -/
theorem Chunks.of_blocks {w w' : World} {B : Nat} {ao : Option Addr} {c cap : Nat} {bk : Nat → Nat} {E : Nat → Int} (h : Chunks w B ao c cap bk E) (e : ∀ k, ((∃ i, i < c ∧ k = bk i) ∨ (Value.slice ao c cap).ownBlock = some k) → w'.heap[k]? = w.heap[k]?) :
    Chunks w' B ao c cap bk E := by
  refine ⟨?_, fun i hi => (h.rows i hi).of_block (e _ (.inl ⟨i, hi, rfl⟩)), h.ge, h.inj, h.out⟩
  obtain ⟨h1, h2⟩ := h.own
  refine ⟨h1, ?_⟩
  rcases h2 with h2 | ⟨g, cap', cur, hv, hb, hg, r⟩
  · exact .inl h2
  · exact .inr ⟨g, cap', cur, hv, hb, (e g (.inr (by rw [hv]; simp [Value.ownBlock]))).trans hg, r⟩

theorem Chunks.alloc {w : World} {B : Nat} {ao : Option Addr} {c cap : Nat} {bk : Nat → Nat} {E : Nat → Int} (h : Chunks w B ao c cap bk E) (o : Obj) : Chunks (w.alloc o) B ao c cap bk E :=
  ⟨h.own.alloc o, fun i hi => (h.rows i hi).alloc o, h.ge, h.inj, h.out⟩

/-- A block of an array of 32 is none of the chunks' blocks. -/
theorem Chunks.apart {w : World} {B : Nat} {ao : Option Addr} {c cap : Nat} {bk : Nat → Nat} {E : Nat → Int} (h : Chunks w B ao c cap bk E) {b : Nat} {a : Array Value} {fr : Nat × Nat} (hb : w.heap[b]? = some (.cells a 23 fr)) (k : Nat)
    (hk : (∃ i, i < c ∧ k = bk i) ∨ (Value.slice ao c cap).ownBlock = some k) : k ≠ b := by
  rintro rfl
  rcases hk with ⟨i, hi, rfl⟩ | hk
  · obtain ⟨a', e, _⟩ := h.rows i hi
    rw [hb] at e
    simp at e
  · obtain ⟨h1, h2⟩ := h.own
    rcases h2 with ⟨hv, _⟩ | ⟨g, cap', cur, hv, _, hg, _⟩
    · rw [hv] at hk; simp [Value.ownBlock] at hk
    · rw [hv] at hk
      simp only [Value.ownBlock, Option.some.injEq] at hk
      subst hk
      rw [hb] at hg
      simp at hg

theorem heap_setCells_other (b k : Nat) (hk : k ≠ b) : ∀ (vs : List Value) (o : Nat) (w : World), (w.setCells b o vs).heap[k]? = w.heap[k]?
  | [], _, _ => rfl
  | v :: r, o, w => by
    rw [World.setCells, heap_setCells_other b k hk r, Below.heap_setCell _ _ _ _ hk]
theorem heap_setCells_size (b : Nat) : ∀ (vs : List Value) (o : Nat) (w : World), (w.setCells b o vs).heap.size = w.heap.size
  | [], _, _ => rfl
  | v :: r, o, w => by
    rw [World.setCells, heap_setCells_size b r]
    simp [World.setCell]
theorem below_setCells {B : Nat} {a : World} (b : Nat) (hb : B ≤ b) : ∀ (vs : List Value) (o : Nat) (w : World), Below B a w → Below B a (w.setCells b o vs)
  | [], _, _, h => h
  | v :: r, o, _, h => below_setCells b hb r (o + 1) _ (h.setCell hb v)

/-- Reading the results of ZZPush. -/
theorem results_zz {fn : Func} {p0 p1 p2 p3 : Tmp} {ty : TypeId} (h : fn.results = #[.tmp p0, .tmp p1, .cell p2 ty, .tmp p3]) (tmps : Array Value) (P : Program) (w : World) (a : Addr) (ha : tmps.getD p2 undef = .pointer (some a)) (v : Value) (hl : (loadVar ty a).run P w = .ok v w) :
    (results fn tmps).run P w = .ok (.tuple #[tmps.getD p0 undef, tmps.getD p1 undef, v, tmps.getD p3 undef]) w := by
  unfold results
  rw [h]
  have ha' : tmps[p2]?.getD undef = .pointer (some a) := by simpa using ha
  simp [Array.mapM_eq_foldlM, List.foldlM, asAddr, ha', hl]

theorem first32_get (E : Nat → Int) (i : Nat) (hi : i < 32) : (first32 E)[i]? = some (.int .u16 (E i)) := by simp [first32, hi]

theorem groups_get (d n : Int) (E : Nat → Int) (v : Value) (i : Nat) (hi : i < 35) : (groups (.int .i64 d) (.int .i64 n) (first32 E) v)[i]? = some (gCell d n E v i) := by
  unfold groups gCell
  rw [List.getElem?_toArray]
  rcases i with _ | _ | i
  · rfl
  · rfl
  · simp only [List.getElem?_cons_succ]
    rw [if_neg (by omega), if_neg (by omega)]
    by_cases h : i < 32
    · rw [if_pos (by omega), List.getElem?_append_left (by rw [first32_length]; exact h), first32_get E i h]
      simp
    · rw [if_neg (by omega), List.getElem?_append_right (by rw [first32_length]; omega), first32_length]
      have : i = 32 := by omega
      subst this
      rfl

theorem groups_stk {w : World} {B : Nat} {d n : Int} {E : Nat → Int} {ao : Option Addr} {c cap : Nat} {bk : Nat → Nat} (hB : B ≤ w.heap.size) (h : Chunks w B ao c cap bk E) :
    Stk (w.alloc (.cells (groups (.int .i64 d) (.int .i64 n) (first32 E) (.slice ao c cap)) 39)) B w.heap.size d n E ao c cap bk := by
  refine ⟨?_, h.alloc _, hB, fun i hi e => ?_, fun e => ?_⟩
  · have := World.rowIs_alloc w (groups (.int .i64 d) (.int .i64 n) (first32 E) (.slice ao c cap)) 39 (gCell d n E (.slice ao c cap)) (fun i hi => groups_get d n E _ i (by rwa [groups_size _ _ _ _ (first32_length E)] at hi))
    rwa [groups_size _ _ _ _ (first32_length E)] at this
  · have := (h.rows i hi).lt; omega
  · have := (h.own.lt _ e).2; omega

theorem Stk.range {w : World} {B g : Nat} {d n : Int} {E : Nat → Int} {ao : Option Addr} {c cap : Nat} {bk : Nat → Nat} (h : Stk w B g d n E ao c cap bk) : w.rangeAt g 2 (first32 E) := fun j v hv => by
  have hj : j < 32 := by
    rcases Nat.lt_or_ge j 32 with h | h
    · exact h
    · rw [List.getElem?_eq_none (by rw [first32_length]; exact h)] at hv; cases hv
  rw [first32_get E j hj] at hv
  cases hv
  have := h.row.cell (i := 2 + j) (by omega)
  unfold gCell at this
  rw [if_neg (by omega), if_neg (by omega), if_pos (by omega), show 2 + j - 2 = j by omega] at this
  exact this

set_option maxRecDepth 100000 in
set_option maxHeartbeats 2000000 in
theorem zzpush_any (w : World) (B : Nat) (d : Int) (n : Nat) (E : Nat → Int) (ao : Option Addr) (c cap : Nat) (bk : Nat → Nat) (k : Int) (hn : n ≤ 32 + 1024 * c) (hc : c ≤ 65536) (hk1 : 1 ≤ k) (hk2 : k ≤ 32767)
    (hE : ∀ j, j < 32 + 1024 * c → 0 ≤ E j ∧ E j ≤ 65535) (hB : B ≤ w.heap.size) (H : Chunks w B ao c cap bk E) :
    Calls Try.prog 9 #[.int .i64 d, .int .i64 n, .agg (first32 E).toArray, .slice ao c cap, .int .i64 k] w fun e w' => ∃ E' n' c' ao' cap' bk', Pushed E n c k E' n' c' ∧
      e = .returned (.tuple #[.int .i64 (wrap64 (d + 1)), .int .i64 ((n' : Nat) : Int), .agg (first32 E').toArray, .slice ao' c' cap']) ∧ Chunks w' B ao' c' cap' bk' E' ∧ Below B w w' := by
  obtain ⟨Z, hZ⟩ : ∃ Z : Array Value, Z = #[.int .u16 0, .int .u16 0, .int .u16 0, .int .u16 0, .int .u16 0, .int .u16 0, .int .u16 0, .int .u16 0, .int .u16 0, .int .u16 0, .int .u16 0, .int .u16 0, .int .u16 0, .int .u16 0, .int .u16 0, .int .u16 0, .int .u16 0, .int .u16 0, .int .u16 0, .int .u16 0, .int .u16 0, .int .u16 0, .int .u16 0, .int .u16 0, .int .u16 0, .int .u16 0, .int .u16 0, .int .u16 0, .int .u16 0, .int .u16 0, .int .u16 0, .int .u16 0] := ⟨_, rfl⟩
  have hZ32 : Z.size = 32 := by rw [hZ]; rfl
  obtain ⟨W0, hW0⟩ : ∃ W, W = (w.alloc (.cells (first32 E).toArray 23)).alloc (.cells Z 23) := ⟨_, rfl⟩
  have hs0 : W0.heap.size = w.heap.size + 1 + 1 := by rw [hW0]; simp
  have hch : Chunks W0 B ao c cap bk E := by rw [hW0]; exact (H.alloc _).alloc _
  have hst := groups_stk (d := d) (n := n) (by omega) hch
  rw [hs0] at hst
  have hb0 : Below B w W0 := by rw [hW0]; exact (Below.alloc ⟨rfl, rfl, rfl, Nat.le_refl _, fun _ _ => rfl⟩ hB _).alloc (by simp; omega) _
  have hb12 : W0.heap[w.heap.size + 1]? = some (.cells Z 23) := by
    have := heap_alloc_last (w.alloc (.cells (first32 E).toArray 23)) (.cells Z 23)
    rw [← hW0] at this
    simpa using this
  have HLT : Hid (∀ k, ((∃ i, i < c ∧ k = bk i) ∨ (Value.slice ao c cap).ownBlock = some k) → k < w.heap.size) := hide (by
    rintro k (⟨i, hi, rfl⟩ | h)
    · exact (H.rows i hi).lt
    · exact (H.own.lt _ h).2)
  have HP := hide (push_any _ B (w.heap.size + 1 + 1) d n E ao c cap bk k hn hc hk1 hk2 hE hst)
  have HST := hide hst
  have HB0 := hide hb0
  have HS := hide hs0
  have H12 := hide hb12
  have HW := hide hW0
  have HL := hide (first32_length E)
  have H1 := hide (first32_one E)
  have HZ := hide hZ
  obtain ⟨cs, hcs⟩ : ∃ cs, cs = first32 E := ⟨_, rfl⟩
  rw [← hcs] at HP HST HW HL H1 ⊢
  have HC := hide hcs
  clear hcs
  clear hst hb0 hb12 hs0 hch hE hW0 H hZ
  go_enter Try.func9, Try.ntmps9
  go_wp2_with (first | ((with_reducible refine wpList_load_mid rfl 23 (.tmp 7) rfl w.heap.size 0 ?_ cs _ ?_ Try.underlying23 ?_ ?_ ?_); rfl; exact World.rangeAt_alloc (World.rangeAt_of_new w cs 23) _; rfl; rw [info23, HL.out]) | ((with_reducible refine wpList_build39 rfl _ _ _ _ rfl d n ao c cap cs HL.out ?_ ?_ ?_ ?_ ?_); rfl; rfl; rfl; rfl) | ((with_reducible refine wpList_store_new rfl 39 _ _ rfl _ (groups (.int .i64 d) (.int .i64 n) cs (.slice ao c cap)) (w.heap.size + 1 + 1) ?_ ?_ ?_ ?_ ?_ ?_ ?_); simp; rfl; rfl; rw [groups_size _ _ _ _ HL.out]; exact info39; rw [groups_size _ _ _ _ HL.out]; rfl; exact groups_one d n ao c cap cs H1.out))
  rw [← HZ.out, ← HW.out]
  go_wp2_with fail
  refine HP.out.mono ?_
  rintro e w1 ⟨rfl, ⟨E', n', c', ao', cap', bk', hp, hS⟩, hK⟩
  have hblk1 : w1.heap[w.heap.size + 1]? = some (.cells Z 23) := by
    have hs := HS.out
    rw [hK.block (w.heap.size + 1) (by simp; omega) (fun h => by
      rcases h with h | h
      · omega
      · have := HLT.out _ h
        omega), Below.heap_alloc _ _ _ (by omega)]
    exact H12.out
  have hth : w1.there (w.heap.size + 1) 0 32 := fun j hj => by
    rw [Nat.zero_add]
    refine ⟨?_, by simp [World.frozen?, hblk1]⟩
    rw [cell_of_row _ _ j Z 23 (0, 0) hblk1, Array.getElem?_eq_getElem (by omega)]
    rfl
  have hrg := hS.range
  have hcd := hS.cd
  have hcn := hS.cn
  have hcc := hS.cc
  have hu := Try.underlying23
  obtain ⟨cs', hcs'⟩ : ∃ cs, cs = first32 E' := ⟨_, rfl⟩
  have hl' := first32_length E'
  have h1' := first32_one E'
  rw [← hcs'] at hrg hl' h1'
  have HC' := hide hcs'
  clear hcs'
  have hi : (Try.prog.info? 23).map (·.size) = some cs'.length := by rw [info23, hl']
  have HS1 := hide hS
  have HK1 := hide hK
  have HBL := hide hblk1
  clear hS hK hblk1
  go_wp2_with fail
  go_region_held3 (fun W => W.cell? ⟨w.heap.size + 1 + 1, 0, none⟩ = some (.int .i64 (wrap64 (d + 1))) ∧ W.cell? ⟨w.heap.size + 1 + 1, 1, none⟩ = some (.int .i64 (n' : Int)) ∧ W.cell? ⟨w.heap.size + 1 + 1, 34, none⟩ = some (.slice ao' c' cap') ∧ W.rangeAt (w.heap.size + 1 + 1) 2 cs' ∧ W.there (w.heap.size + 1) 0 32) ((go_split_ands; simp only [World.rangeAt_drew, World.there_drew] at *; (repeat' constructor) <;> first | assumption | (apply World.there_setCells; assumption) | (refine World.rangeAt_setCells_apart (by assumption) _ _ _ (by omega)) | (refine (World.cell?_setCells_out _ _ _ _ _ (fun h => absurd h (by simp))).trans ?_; assumption))) (fail)
  go_wp2_with fail
  refine bodyPost_ret (results_zz rfl _ _ _ ⟨w.heap.size + 1, 0, none⟩ rfl (.agg cs'.toArray) (run_loadVar_mid _ _ _ 23 cs' _ (World.rangeAt_setCells_same _ _ _ _ (by rw [hl']; simpa using hth)) hu rfl hi)) rfl ?_
  refine ⟨E', n', c', ao', cap', bk', hp, ?_, ?_, ?_⟩
  · rw [← HC'.out]; rfl
  · exact HS1.out.ch.of_blocks (fun k hk => heap_setCells_other _ _ (HS1.out.ch.apart HBL.out k hk) _ _ _)
  · refine below_setCells _ (by omega) _ _ _ (Below.drew ?_)
    exact (HB0.out.alloc (by have := HS.out; omega) _).trans (HST.out.below HK1.out)

end Go.Proofs.Qxb6604049a
