/-
  forkstream.LawS5425BWhole (4): lemmas: the channel is filled; what serve finds; what the law reads behind it.
-/
import Derived.Test.YbulkdhieC4
import Derived.Deep.QuietTactic
import Derived.BigQuiet
import Derived.RegionTactic
import Derived.Lib.IfaceEq
namespace Go.Proofs.Ybulkdhie
open Go.RowKit Go.Conc Go.Proofs.Ybulkdhie.Lone

def sendBuf (L Q k : Nat) : Array Value := ((List.range k).map (clo L Q)).toArray
theorem sendBuf_zero (L Q : Nat) : sendBuf L Q 0 = #[] := rfl
theorem sendBuf_size (L Q k : Nat) : (sendBuf L Q k).size = k := by simp [sendBuf]
theorem sendBuf_push (L Q k : Nat) : (sendBuf L Q k).push (clo L Q k) = sendBuf L Q (k + 1) := by simp [sendBuf, List.range_succ]
theorem sendBuf_all (L Q n : Nat) : sendBuf L Q n = bufAt L Q n 0 := by simp [sendBuf, bufAt, List.range_eq_range']

structure Sent (B n : Nat) (K : Nat → Bool) (V : Nat → Int) (k : Nat) (w0 w : World) : Prop where
  sz : w.heap.size = B + 2 + 3 * k
  ch : ∃ s r tm, w.heap[B]? = some (.chan n (sendBuf (B + 1) (B + 2) k) false s r tm)
  log : w.heap[B + 1]? = some (.cells #[.slice none 0 0] 24 (0, 0))
  boxes : Boxes (B + 2) k K V w
  bel : Below B w0 w

/-- Three new blocks. -/
theorem three (w : World) (o0 o1 o2 : Obj) : (∀ j, j < w.heap.size → (((w.alloc o0).alloc o1).alloc o2).heap[j]? = w.heap[j]?) ∧ (((w.alloc o0).alloc o1).alloc o2).heap[w.heap.size]? = some o0 ∧
    (((w.alloc o0).alloc o1).alloc o2).heap[w.heap.size + 1]? = some o1 ∧ (((w.alloc o0).alloc o1).alloc o2).heap[w.heap.size + 2]? = some o2 ∧ (((w.alloc o0).alloc o1).alloc o2).heap.size = w.heap.size + 3 := by
  have s1 : (w.alloc o0).heap.size = w.heap.size + 1 := by simp
  have s2 : ((w.alloc o0).alloc o1).heap.size = w.heap.size + 2 := by simp
  refine ⟨fun j hj => ?_, ?_, ?_, ?_, by simp⟩
  · rw [Below.heap_alloc _ _ j (by omega), Below.heap_alloc _ _ j (by omega), Below.heap_alloc _ _ j hj]
  · rw [Below.heap_alloc _ _ _ (by omega), Below.heap_alloc _ _ _ (by omega)]; exact heap_alloc_new _ _
  · rw [Below.heap_alloc _ _ _ (by omega), ← s1]; exact heap_alloc_new _ _
  · rw [← s2]; exact heap_alloc_new _ _

theorem cell_of_heap {w : World} {b : Nat} {v : Value} {t : TypeId} (h : w.heap[b]? = some (.cells #[v] t (0, 0))) : w.cell? ⟨b, 0, none⟩ = some v := by simp [World.cell?, h]

theorem Sent.step {B n : Nat} {K : Nat → Bool} {V : Nat → Int} {k : Nat} {w0 w : World} (h : Sent B n K V k w0 w) (s r : Nat) (tm : Bool) :
    Sent B n K V (k + 1) w0 ((((w.alloc (.cells #[.int .i64 k] 3)).alloc (.cells #[.bool (K k)] 4)).alloc (.cells #[.int .i64 (V k)] 3)).setChan B n (sendBuf (B + 1) (B + 2) (k + 1)) false s r tm) := by
  obtain ⟨t0, t1, t2, t3, t4⟩ := three w (.cells #[.int .i64 k] 3) (.cells #[.bool (K k)] 4) (.cells #[.int .i64 (V k)] 3)
  have b0 : Below B w0 (((w.alloc (.cells #[.int .i64 k] 3)).alloc (.cells #[.bool (K k)] 4)).alloc (.cells #[.int .i64 (V k)] 3)) :=
    ((h.bel.alloc (by have := h.sz; omega) _).alloc (by have := h.sz; simp; omega) _).alloc (by have := h.sz; simp; omega) _
  generalize ((w.alloc (.cells #[.int .i64 k] 3)).alloc (.cells #[.bool (K k)] 4)).alloc (.cells #[.int .i64 (V k)] 3) = W at t0 t1 t2 t3 t4 b0 ⊢
  have hsz := h.sz
  have g : ∀ j, j ≠ B → (W.setChan B n (sendBuf (B + 1) (B + 2) (k + 1)) false s r tm).heap[j]? = W.heap[j]? := fun j hj => by
    simp only [World.setChan]
    rw [Array.getElem?_setIfInBounds_ne (fun e => hj e.symm)]
  have gc : ∀ j o u, j ≠ B → w.cell? ⟨j, o, none⟩ = some u → (W.setChan B n (sendBuf (B + 1) (B + 2) (k + 1)) false s r tm).cell? ⟨j, o, none⟩ = some u := fun j o u hj hc => by
    rw [World.cell?_of_block (w := w) ((g j hj).trans (t0 j (World.block_lt_of_cell? _ _ hc)))]; exact hc
  rw [hsz] at t1 t2 t3
  refine ⟨by rw [size_setChan]; omega, ⟨s, r, tm, heap_setChan W B _ _ _ _ _ _ (by omega)⟩, (g (B + 1) (by omega)).trans ((t0 (B + 1) (by omega)).trans h.log), ⟨fun i hi => ?_, fun i hi => ?_, fun i hi => ?_⟩, below_setChan b0 (Nat.le_refl _) _ _ _ _ _ _⟩
  · by_cases e : i < k
    · exact gc _ _ _ (by omega) (h.boxes.idx i e)
    · obtain rfl : i = k := by omega
      exact cell_of_heap ((g _ (by omega)).trans t1)
  · by_cases e : i < k
    · exact gc _ _ _ (by omega) (h.boxes.kind i e)
    · obtain rfl : i = k := by omega
      exact cell_of_heap ((g _ (by omega)).trans t2)
  · by_cases e : i < k
    · exact gc _ _ _ (by omega) (h.boxes.val i e)
    · obtain rfl : i = k := by omega
      exact cell_of_heap ((g _ (by omega)).trans t3)

theorem Sent.chan {B n : Nat} {K : Nat → Bool} {V : Nat → Int} {k : Nat} {w0 w : World} (h : Sent B n K V k w0 w) (o0 o1 o2 : Obj) : ∃ s r tm, (((w.alloc o0).alloc o1).alloc o2).heap[B]? = some (.chan n (sendBuf (B + 1) (B + 2) k) false s r tm) := by
  obtain ⟨s, r, tm, hc⟩ := h.ch
  exact ⟨s, r, tm, ((three w o0 o1 o2).1 B (by have := h.sz; omega)).trans hc⟩

theorem Sent.start (n : Nat) (K : Nat → Bool) (V : Nat → Int) (w : World) : Sent w.heap.size n K V 0 w ((w.alloc (.chan n #[] false 0 0 false)).alloc (.cells #[.slice none 0 0] 24)) := by
  have s1 : (w.alloc (.chan n #[] false 0 0 false)).heap.size = w.heap.size + 1 := by simp
  refine ⟨by simp, ⟨0, 0, false, ?_⟩, ?_, ⟨fun i hi => absurd hi (by omega), fun i hi => absurd hi (by omega), fun i hi => absurd hi (by omega)⟩, ((Below.refl _ w).alloc (Nat.le_refl _) _).alloc (by simp) _⟩
  · rw [Below.heap_alloc _ _ _ (by omega)]; exact heap_alloc_new _ _
  · rw [← s1]; exact heap_alloc_new _ _

theorem chan_info (t : TypeId) (b : Nat) (h : (Yba.prog.info? t).map (fun i => i.bytes) = some b) : ∃ i, Yba.prog.info? t = some i ∧ i.bytes = b := by
  obtain ⟨i, h1, h2⟩ := Option.map_eq_some_iff.1 h
  exact ⟨i, h1, h2⟩
theorem make25 (n : Nat) (hn : n ≤ 4096) (w : World) : (Instr.makeChan 25 (.int .i64 n)).run Yba.prog w = .ok (.chan (some w.heap.size)) (w.alloc (.chan n #[] false 0 0 false)) := by
  obtain ⟨i, hi, hb⟩ := chan_info 1 8 (by kernel_rfl)
  exact run_makeChan Yba.underlying25 hi .i64 n (by omega) (by rw [hb]; omega)
theorem make28 (n : Nat) (hn : n ≤ 4096) (w : World) : (Instr.makeChan 28 (.int .i64 n)).run Yba.prog w = .ok (.chan (some w.heap.size)) (w.alloc (.chan n #[] false 0 0 false)) := by
  obtain ⟨i, hi, hb⟩ := chan_info 31 0 (by kernel_rfl)
  exact run_makeChan Yba.underlying28 hi .i64 n (by omega) (by rw [hb]; omega)


/-- The world in which serve is called. -/
def served (B n s r : Nat) (tm : Bool) (wc : World) : World :=
  ((((wc.setChan B n (sendBuf (B + 1) (B + 2) n) true s r tm).alloc (.chan n #[] false 0 0 false)).alloc (.cells #[.chan (some B), .chan (some wc.heap.size), .bool false, .nilIface] 30)).alloc (.cells #[.int .u64 0, .int .u32 0] 40)).setCell ⟨wc.heap.size + 2, 0, none⟩ (.int .u64 4294967296)

theorem served_ready {B n : Nat} {K : Nat → Bool} {V : Nat → Int} {w0 wc : World} (h : Sent B n K V n w0 wc) (s r : Nat) (tm : Bool) :
    Inv (B + 1) (wc.heap.size + 1) B wc.heap.size (wc.heap.size + 3) n K V 0 (served B n s r tm wc) ∧ Boxes (B + 2) n K V (served B n s r tm wc) ∧ (served B n s r tm wc).heap[B]? = some (.chan n (bufAt (B + 1) (B + 2) n 0) true s r tm) ∧
    (served B n s r tm wc).cell? ⟨wc.heap.size + 2, 0, none⟩ = some (.int .u64 4294967296) ∧ (served B n s r tm wc).frozen? ⟨wc.heap.size + 2, 0, none⟩ = false ∧ Below B w0 (served B n s r tm wc) := by
  have hsz := h.sz
  have e1 : (wc.setChan B n (sendBuf (B + 1) (B + 2) n) true s r tm).heap.size = wc.heap.size := size_setChan ..
  have g1 : ∀ j, j ≠ B → (wc.setChan B n (sendBuf (B + 1) (B + 2) n) true s r tm).heap[j]? = wc.heap[j]? := fun j hj => by
    simp only [World.setChan]
    rw [Array.getElem?_setIfInBounds_ne (fun e => hj e.symm)]
  have c1 := heap_setChan wc B n (sendBuf (B + 1) (B + 2) n) true s r tm (by omega)
  have b1 : Below B w0 (wc.setChan B n (sendBuf (B + 1) (B + 2) n) true s r tm) := below_setChan h.bel (Nat.le_refl _) _ _ _ _ _ _
  unfold served
  generalize wc.setChan B n (sendBuf (B + 1) (B + 2) n) true s r tm = w1 at e1 g1 c1 b1 ⊢
  obtain ⟨t0, t1, t2, t3, t4⟩ := three w1 (.chan n #[] false 0 0 false) (.cells #[.chan (some B), .chan (some wc.heap.size), .bool false, .nilIface] 30) (.cells #[.int .u64 0, .int .u32 0] 40)
  have b2 : Below B w0 (((w1.alloc (.chan n #[] false 0 0 false)).alloc (.cells #[.chan (some B), .chan (some wc.heap.size), .bool false, .nilIface] 30)).alloc (.cells #[.int .u64 0, .int .u32 0] 40)) :=
    ((b1.alloc (by omega) _).alloc (by simp; omega) _).alloc (by simp; omega) _
  generalize ((w1.alloc (.chan n #[] false 0 0 false)).alloc (.cells #[.chan (some B), .chan (some wc.heap.size), .bool false, .nilIface] 30)).alloc (.cells #[.int .u64 0, .int .u32 0] 40) = w2 at t0 t1 t2 t3 t4 b2 ⊢
  rw [e1] at t0 t1 t2 t3 t4
  have t5 := heap_setCell_at (o := 0) (.int .u64 4294967296) t3
  have b3 := b2.setCell (p := ⟨wc.heap.size + 2, 0, none⟩) (by simp; omega) (.int .u64 4294967296)
  have g3 : ∀ j, j ≠ wc.heap.size + 2 → (w2.setCell ⟨wc.heap.size + 2, 0, none⟩ (.int .u64 4294967296)).heap[j]? = w2.heap[j]? := fun j hj => Below.heap_setCell w2 ⟨wc.heap.size + 2, 0, none⟩ _ j hj
  have e3 : w2.heap.size ≤ (w2.setCell ⟨wc.heap.size + 2, 0, none⟩ (.int .u64 4294967296)).heap.size := (Below.setCell (Below.refl 0 w2) (p := ⟨wc.heap.size + 2, 0, none⟩) (Nat.zero_le _) _).size
  generalize w2.setCell ⟨wc.heap.size + 2, 0, none⟩ (.int .u64 4294967296) = w3 at t5 b3 g3 e3 ⊢
  have gg : ∀ j, j < wc.heap.size → j ≠ B → w3.heap[j]? = wc.heap[j]? := fun j h1 h2 => (g3 j (by omega)).trans ((t0 j h1).trans (g1 j h2))
  have gc : ∀ j o u, j ≠ B → wc.cell? ⟨j, o, none⟩ = some u → w3.cell? ⟨j, o, none⟩ = some u := fun j o u hj hc => by
    rw [World.cell?_of_block (w := wc) (gg j (World.block_lt_of_cell? _ _ hc) hj)]; exact hc
  refine ⟨⟨by omega, ⟨.slice none 0 0, (gg (B + 1) (by omega) (by omega)).trans h.log, World.ownsRow_nil ..⟩, (g3 _ (by omega)).trans t2, ⟨#[], 0, 0, (g3 _ (by omega)).trans t1, rfl⟩⟩,
    ⟨fun i hi => gc _ _ _ (by omega) (h.boxes.idx i hi), fun i hi => gc _ _ _ (by omega) (h.boxes.kind i hi), fun i hi => gc _ _ _ (by omega) (h.boxes.val i hi)⟩, ?_, ?_, ?_, b3⟩
  · rw [← sendBuf_all]; exact (g3 B (by omega)).trans ((t0 B (by omega)).trans c1)
  · simp [World.cell?, t5]
  · simp [World.frozen?, t5]

/-- What the law reads behind serve. -/
structure Done (B n D : Nat) (K : Nat → Bool) (V : Nat → Int) (w0 w : World) : Prop where
  bel : Below B w0 w
  x1 : w.cell? ⟨D + 1, 1, none⟩ = some (.chan (some D))
  x2 : w.cell? ⟨D + 1, 2, none⟩ = some (.bool (ret K n))
  x3 : w.cell? ⟨D + 1, 3, none⟩ = some (rais K V n)
  len1 : ∀ ty, (Builtin.len_ #[28] ty #[.chan (some D)]).run Yba.prog w = .ok (.int .i64 n) w
  len2 : ∀ ty, (Builtin.len_ #[25] ty #[.chan (some B)]).run Yba.prog w = .ok (.int .i64 0) w
  log : ∃ la lc g, w.cell? ⟨B + 1, 0, none⟩ = some (.slice la n lc) ∧ (0 < n → la = some ⟨g, 0, none⟩) ∧ ∀ j, j < n → w.cell? ⟨g, 0 + j, none⟩ = some (.int .i64 j)

theorem done_of {B n : Nat} {K : Nat → Bool} {V : Nat → Int} {w0 wc w w' : World} (hw : Below B w0 w) (hsz : wc.heap.size = B + 2 + 3 * n) (inv : Inv (B + 1) (wc.heap.size + 1) B wc.heap.size (wc.heap.size + 3) n K V n w') (hf : Fr (Sy B (B + 1) (wc.heap.size + 1) wc.heap.size (wc.heap.size + 2) (wc.heap.size + 3)) w w')
    (he : Emptied B n w') (hB : B ≤ w.heap.size) : Done B n wc.heap.size K V w0 w' := by
  obtain ⟨h1, ⟨lv, h2, h3⟩, h4, ⟨b, s', r', h5, h6⟩⟩ := inv
  obtain ⟨s, r, tm, he⟩ := he
  refine ⟨hw.trans ⟨hf.os, hf.tape, hf.output, hf.size, fun k hk => hf.block k (by omega) (fun h => ?_)⟩, by simp [World.cell?, h4], by simp [World.cell?, h4], by simp [World.cell?, h4], fun ty => ?_, fun ty => ?_, ?_⟩
  · rcases h with h | h | h | h | h | h <;> omega
  · simp [Builtin.len_, run_underlying Yba.underlying28, run_getObj_chan _ _ h5, goInt, h6]
  · cases tm <;> simp [Builtin.len_, run_underlying Yba.underlying25, run_getObj_chan _ _ he, goInt]
  · rcases h3.2 with ⟨rfl, rfl⟩ | ⟨g, cap, cur, rfl, _⟩
    · exact ⟨none, 0, 0, cell_of_heap h2, fun h => absurd h (by omega), fun j h => absurd h (by omega)⟩
    · refine ⟨_, cap, g, cell_of_heap h2, fun _ => rfl, fun j hj => ?_⟩
      rw [Nat.zero_add, h3.cellAt j (by omega)]
      simp [rowTo, hj]

theorem rais_shape (K : Nat → Bool) (V : Nat → Int) : ∀ i, rais K V i = .nilIface ∨ ∃ v, rais K V i = .iface 3 (.int .i64 v)
  | 0 => .inl rfl
  | i + 1 => by
    by_cases h : K i = true
    · exact .inr ⟨V i, by simp [rais, h]⟩
    · rcases rais_shape K V i with h1 | ⟨v, h1⟩
      · exact .inl (by simp [rais, h, h1])
      · exact .inr ⟨v, by simp [rais, h, h1]⟩

theorem rais_eql (K : Nat → Bool) (V : Nat → Int) (i : Nat) (w : World) : (binOp .eql 20 (rais K V i) (rais K V i)).run Yba.prog w = .ok (.bool true) w := by
  rcases rais_shape K V i with h | ⟨v, h⟩
  · rw [h]
    have h2 : ∀ d : Nat, (Op.equalIn (d + 1) 20 .nilIface .nilIface).run Yba.prog w = .ok true w := fun d => by
      simp [Op.equalIn, run_underlying Yba.underlying20]
    simp only [binOp]
    simp [Op.equal, Op.maxDepth, h2 9999]
  · rw [h, Lib.run_eql_iface_int (P := Yba.prog) w v v Yba.underlying20 (by kernel_rfl) Yba.underlying3]; simp

theorem rais_guard (K : Nat → Bool) (V : Nat → Int) (i : Nat) (x y : Operand) (w : World) : (eqGuard .eql 20 x y (rais K V i) (rais K V i)).run Yba.prog w = .ok () w := by
  rcases rais_shape K V i with h | ⟨v, h⟩
  · rw [h]
    have h2 : ∀ d : Nat, (Op.eqGuardIn (d + 1) 20 .nilIface .nilIface).run Yba.prog w = .ok false w := fun d => by
      simp [Op.eqGuardIn, run_underlying Yba.underlying20]
    cases x <;> cases y <;> simp [eqGuard, Op.maxDepth, h2 9999]
  · rw [h]; rfl

end Go.Proofs.Ybulkdhie
