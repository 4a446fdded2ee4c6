/-
  forkstream.LawS5425BWhole: (*extension).run (35) on the i-th closure.
-/
import Derived.Test.YbulkdhieC2
namespace Go.Proofs.Ybulkdhie
open Go.RowKit Go.Conc Go.Proofs.Ybulkdhie.Lone

/-- x.returned and x.raised after i calls. -/
def ret (K : Nat → Bool) : Nat → Bool
  | 0 => false
  | i + 1 => !K i
def rais (K : Nat → Bool) (V : Nat → Int) : Nat → Value
  | 0 => .nilIface
  | i + 1 => if K i = true then .iface 3 (.int .i64 (V i)) else rais K V i

/-- What the log holds after i calls. -/
def rowTo (i : Nat) : List Value := (List.range i).map fun j : Nat => Value.int .i64 (j : Int)
theorem rowTo_succ (i : Nat) : rowTo (i + 1) = rowTo i ++ [.int .i64 i] := by simp [rowTo, List.range_succ]

/-- The i-th closure; its boxes lie at Q + 3 i, .. -/
def clo (L Q i : Nat) : Value := .func (.func 9) #[] #[.pointer (some ⟨L, 0, none⟩), .pointer (some ⟨Q + 3 * i, 0, none⟩), .pointer (some ⟨Q + 3 * i + 1, 0, none⟩), .pointer (some ⟨Q + 3 * i + 2, 0, none⟩)]

structure Boxes (Q n : Nat) (K : Nat → Bool) (V : Nat → Int) (w : World) : Prop where
  idx : ∀ i, i < n → w.cell? ⟨Q + 3 * i, 0, none⟩ = some (.int .i64 i)
  kind : ∀ i, i < n → w.cell? ⟨Q + 3 * i + 1, 0, none⟩ = some (.bool (K i))
  val : ∀ i, i < n → w.cell? ⟨Q + 3 * i + 2, 0, none⟩ = some (.int .i64 (V i))

structure Inv (L X C D base n : Nat) (K : Nat → Bool) (V : Nat → Int) (i : Nat) (w : World) : Prop where
  szb : base ≤ w.heap.size
  log : ∃ lv, w.heap[L]? = some (.cells #[lv] 24 (0, 0)) ∧ w.ownsRow base 3 1 lv i (rowTo i)
  x : w.heap[X]? = some (.cells #[.chan (some C), .chan (some D), .bool (ret K i), rais K V i] 30 (0, 0))
  d : ∃ buf s r, w.heap[D]? = some (.chan n buf false s r false) ∧ buf.size = i

def Sx (L X D base k : Nat) : Prop := k = L ∨ k = X ∨ k = D ∨ base ≤ k

theorem lt_of_heap {w : World} {b : Nat} {o : Obj} (h : w.heap[b]? = some o) : b < w.heap.size := by
  rcases Nat.lt_or_ge b w.heap.size with h1 | h1
  · exact h1
  · rw [Array.getElem?_eq_none h1] at h; cases h

set_option maxRecDepth 100000 in
set_option maxHeartbeats 1600000 in
theorem run_any (L X C D Q base n i : Nat) (K : Nat → Bool) (V : Nat → Int) (w : World) (hi : i < n) (hn : n ≤ 4096) (inv : Inv L X C D base n K V i w) (bx : Boxes Q n K V w)
    (hL : L < Q) (hQ : Q + 3 * n ≤ D) (hDX : D < X) (hX : X < base) :
    Calls Yba.prog 35 #[.pointer (some ⟨X, 0, none⟩), clo L Q i] w fun e w' => e = .returned (.tuple #[]) ∧ Inv L X C D base n K V (i + 1) w' ∧ Fr (Sx L X D base) w w' := by
  obtain ⟨szb, ⟨lv, hlog, hown⟩, hx, ⟨buf, s, r, hd, hbuf⟩⟩ := inv
  have hq : Q + 3 * i + 3 ≤ D := by omega
  -- the world in which the closure is called
  have hx2 : w.cell? ⟨X, 2, none⟩ = some (.bool (ret K i)) := by simp [World.cell?, hx]
  have fx2 : w.frozen? ⟨X, 2, none⟩ = false := by simp [World.frozen?, hx]
  have hbx := lt_of_heap hx
  generalize hW : (w.setCell ⟨X, 2, none⟩ (.bool false)).alloc (.cells #[.pointer (some ⟨X, 0, none⟩)] 27 (0, 0)) = W
  have hsz : W.heap.size = w.heap.size + 1 := by subst hW; simp
  have hWb : ∀ j, j < w.heap.size → j ≠ X → W.heap[j]? = w.heap[j]? := fun j hj hne => by
    subst hW
    rw [Below.heap_alloc _ _ j (by simpa using hj)]
    exact Below.heap_setCell w ⟨X, 2, none⟩ _ j hne
  have hWx : W.heap[X]? = some (.cells #[.chan (some C), .chan (some D), .bool false, rais K V i] 30 (0, 0)) := by
    subst hW
    rw [Below.heap_alloc _ _ X (by simpa using hbx)]
    exact heap_setCell_at (o := 2) (.bool false) hx
  have hWn : W.heap[w.heap.size]? = some (.cells #[.pointer (some ⟨X, 0, none⟩)] 27 (0, 0)) := by
    subst hW
    have e : (w.setCell ⟨X, 2, none⟩ (.bool false)).heap.size = w.heap.size := by simp
    rw [← e]
    exact heap_alloc_new _ _
  have hWf : Fr (Sx L X D base) w W := by
    subst hW
    exact ((Fr.refl _ w).setCell _ _ (Or.inr (Or.inl rfl))).alloc _
  have hWo : W.ownsRow base 3 1 lv i (rowTo i) := by
    subst hW
    refine World.ownsRow.alloc (hown.kept (row := some X) ?_ ?_) _
    · have hb := Below.setCell (Below.refl 0 w) (p := ⟨X, 2, none⟩) (Nat.zero_le _) (.bool false)
      exact ⟨hb.os, hb.tape, hb.output, hb.size, fun k _ hk => Below.heap_setCell w ⟨X, 2, none⟩ _ k (fun e => hk (by rw [e]))⟩
    · right; intro e; have := (hown.lt X e).1; omega
  have hcell : ∀ j o u, w.cell? ⟨j, o, none⟩ = some u → j ≠ X → W.cell? ⟨j, o, none⟩ = some u := fun j o u h hne => by
    rw [World.cell?_of_block (w := w) (hWb j (World.block_lt_of_cell? _ _ h) hne)]; exact h
  have call := clo_any L (Q + 3 * i) (Q + 3 * i + 1) (Q + 3 * i + 2) base i (K i) (V i) lv (rowTo i) (fun k => k = L ∨ lv.ownBlock = some k) W
    ((hWb L (by omega) (by omega)).trans hlog) (hcell _ _ _ (bx.idx i hi) (by omega)) (hcell _ _ _ (bx.kind i hi) (by omega)) (hcell _ _ _ (bx.val i hi) (by omega)) hWo (by omega) (by omega) (by omega) (by omega) (by omega) (by omega) (by omega) (Or.inl rfl) (fun j h => Or.inr h)
  -- behind the closure
  have after : ∀ w3, Fr (fun k => k = L ∨ lv.ownBlock = some k) W w3 → (∃ lv', w3.heap[L]? = some (.cells #[lv'] 24 (0, 0)) ∧ w3.ownsRow base 3 1 lv' (i + 1) (rowTo i ++ [.int .i64 i])) →
      w3.heap[X]? = some (.cells #[.chan (some C), .chan (some D), .bool false, rais K V i] 30 (0, 0)) ∧ w3.cell? ⟨w.heap.size, 0, none⟩ = some (.pointer (some ⟨X, 0, none⟩)) ∧ w3.heap[D]? = some (.chan n buf false s r false) ∧ w3.cell? ⟨X, 2, none⟩ = some (.bool false) ∧ w3.frozen? ⟨X, 2, none⟩ = false ∧
      ∀ (w5 : World) (y2 : Bool) (y3 : Value), y2 = ret K (i + 1) → y3 = rais K V (i + 1) → Fr (fun k => k = X ∨ k = D) w3 w5 → w5.heap[X]? = some (.cells #[.chan (some C), .chan (some D), .bool y2, y3] 30 (0, 0)) → (∃ b s r, w5.heap[D]? = some (.chan n b false s r false) ∧ b.size = i + 1) →
        Inv L X C D base n K V (i + 1) w5 ∧ Fr (Sx L X D base) w w5 := by
    intro w3 hf hl
    have hne : ∀ k, k < base → lv.ownBlock ≠ some k := fun k hk e => by have := (hown.lt k e).1; omega
    have g : ∀ k, k < base → k ≠ L → w3.heap[k]? = W.heap[k]? := fun k hk h1 => hf.block k (by omega) (fun h => h.elim h1 (hne k hk))
    have hX3 := (g X hX (by omega)).trans hWx
    have hN3 : w3.heap[w.heap.size]? = some (.cells #[.pointer (some ⟨X, 0, none⟩)] 27 (0, 0)) := by
      rw [hf.block w.heap.size (by omega) (fun h => h.elim (by omega) (fun e => by have := (hown.lt _ e).2; omega))]; exact hWn
    refine ⟨hX3, by simp [World.cell?, hN3], (g D (by omega) (by omega)).trans ((hWb D (by omega) (by omega)).trans hd), by simp [World.cell?, hX3], by simp [World.frozen?, hX3], ?_⟩
    intro w5 y2 y3 e2 e3 hf5 hx5 hd5
    subst e2 e3
    obtain ⟨lv', hl1, hl2⟩ := hl
    refine ⟨⟨by have := hf.size; have := hf5.size; omega, ⟨lv', ?_, ?_⟩, hx5, hd5⟩, ?_⟩
    · exact (hf5.block L (by have := hf.size; omega) (fun h => by omega)).trans hl1
    · rw [rowTo_succ]
      refine ⟨hl2.1, ?_⟩
      rcases hl2.2 with h | ⟨gb, cap, cur, h1, h2, h3, h4⟩
      · exact .inl h
      · exact .inr ⟨gb, cap, cur, h1, h2, (hf5.block gb (lt_of_heap h3) (fun h => by omega)).trans h3, h4⟩
    · refine hWf.trans (Fr.trans ⟨hf.os, hf.tape, hf.output, hf.size, fun k hk hs => hf.block k hk (fun h => hs ?_)⟩ ⟨hf5.os, hf5.tape, hf5.output, hf5.size, fun k hk hs => hf5.block k hk (fun h => hs ?_)⟩)
      · rcases h with h | h
        · exact Or.inl h
        · exact Or.inr (Or.inr (Or.inr (hown.lt k h).1))
      · rcases h with h | h
        · exact Or.inr (Or.inl h)
        · exact Or.inr (Or.inr (Or.inl h))
  have AFTER := hideC after
  have CALL := hideC call
  have HW := hideC hW
  have hmf : ∀ (fn : Fn) (first cap : Array Value) (w : World), (Instr.makeFunc fn first cap).run Yba.prog w = .ok (.func fn first cap) w := fun _ _ _ _ => rfl
  clear after call hW hcell hWo hWf hWn hWx hWb hsz hlog hown hd bx
  simp only [clo]
  by_cases hK : K i = true
  · go_enter_defers Yba.func35, Yba.ntmps35
    go_wp2_with (first | (go_at_call 9; rw [HW.out]; refine CALL.out.mono ?_; rw [if_pos hK]; rintro e w3 ⟨rfl, hf, hl⟩; obtain ⟨p1, p2, p3, p4, p5, p6⟩ := AFTER.out w3 hf hl) | fail)
    refine leaves_cons (f := 46) (args := #[.pointer (some ⟨w.heap.size, 0, none⟩)]) (by simp) (by simp [go_sem]) ?_
    refine (d46_pan w.heap.size X D n w3 3 (.int .i64 (V i)) [] p2 p1 p3 (by omega) (by omega) (by omega)).mono ?_
    rintro e u' w5 ⟨rfl, rfl, rfl⟩
    simp only [settle, List.dropWhile_nil]
    have hXs := heap_setCell_at (o := 3) (.iface 3 (.int .i64 (V i))) p1
    have hDs : (w3.setCell ⟨X, 3, none⟩ (.iface 3 (.int .i64 (V i)))).drew.heap[D]? = some (.chan n buf false s r false) := (Below.heap_setCell w3 ⟨X, 3, none⟩ _ D (by simp; omega)).trans p3
    refine ⟨_, results_none rfl _ _ _, rfl, p6 _ false (.iface 3 (.int .i64 (V i))) (by simp [ret, hK]) (by simp [rais, hK]) ?_ ?_ ?_⟩
    · exact Fr.setChan (Fr.drew ((Fr.refl _ w3).setCell _ _ (Or.inl rfl))) _ _ _ _ _ _ _ (Or.inr rfl)
    · have : ((w3.setCell ⟨X, 3, none⟩ (.iface 3 (.int .i64 (V i)))).drew.setChan D n (buf.push (.agg #[])) false (s + 1) r false).heap[X]? = (w3.setCell ⟨X, 3, none⟩ (.iface 3 (.int .i64 (V i)))).heap[X]? := by
        simp only [World.setChan]
        rw [Array.getElem?_setIfInBounds_ne (by omega)]
        rfl
      rw [this]
      exact hXs
    · exact ⟨_, _, _, heap_setChan _ D _ _ _ _ _ _ (lt_of_heap hDs), by simp [hbuf]⟩
  · go_enter_defers Yba.func35, Yba.ntmps35
    go_wp2_with (first | (go_at_call 9; rw [HW.out]; refine CALL.out.mono ?_; rw [if_neg hK]; rintro e w3 ⟨rfl, hf, hl⟩; obtain ⟨p1, p2, p3, p4, p5, p6⟩ := AFTER.out w3 hf hl; have P6 := hideC p6; clear p6) | fail)
    have hXs := heap_setCell_at (o := 2) (.bool true) p1
    have hDs : (w3.setCell ⟨X, 2, none⟩ (.bool true)).heap[D]? = some (.chan n buf false s r false) := (Below.heap_setCell w3 ⟨X, 2, none⟩ _ D (by simp; omega)).trans p3
    have hbs : (w3.setCell ⟨X, 2, none⟩ (.bool true)).cell? ⟨w.heap.size, 0, none⟩ = some (.pointer (some ⟨X, 0, none⟩)) := by
      rw [World.cell?_of_block (w := w3) (Below.heap_setCell w3 ⟨X, 2, none⟩ _ w.heap.size (by simp; omega))]; exact p2
    refine leaves_cons (f := 46) (args := #[.pointer (some ⟨w.heap.size, 0, none⟩)]) (by simp) (by simp [go_sem]) ?_
    refine (d46_ret w.heap.size X D n _ .returning hbs hXs hDs (by omega)).mono ?_
    rintro e u' w5 ⟨rfl, rfl, rfl⟩
    simp only [settle]
    refine ⟨_, results_none rfl _ _ _, rfl, P6.out _ true (rais K V i) (by simp [ret, hK]) (by simp [rais, hK]) ?_ ?_ ?_⟩
    · exact Fr.setChan ((Fr.refl _ w3).setCell _ _ (Or.inl rfl)) _ _ _ _ _ _ _ (Or.inr rfl)
    · have : ((w3.setCell ⟨X, 2, none⟩ (.bool true)).setChan D n (buf.push (.agg #[])) false (s + 1) r false).heap[X]? = (w3.setCell ⟨X, 2, none⟩ (.bool true)).heap[X]? := by
        simp only [World.setChan]
        rw [Array.getElem?_setIfInBounds_ne (by omega)]
      rw [this]
      exact hXs
    · exact ⟨_, _, _, heap_setChan _ D _ _ _ _ _ _ (lt_of_heap hDs), by simp [hbuf]⟩
end Go.Proofs.Ybulkdhie
