/-
  forkstream.LawS5425BWhole: (*extension).serve (11).
-/
import Derived.Test.YbulkdhieC3
import Derived.Deep.LoopGhost
import Derived.Deep.CutBlock
import Derived.Deep.CutRange
import Derived.Deep.Light
namespace Go.Proofs.Ybulkdhie
open Go.RowKit Go.Conc Go.Proofs.Ybulkdhie.Lone

/-- What the channel of calls holds when i of n have been taken. -/
def bufAt (L Q n i : Nat) : Array Value := ((List.range' i (n - i)).map (clo L Q)).toArray
theorem bufAt_size (L Q n i : Nat) : (bufAt L Q n i).size = n - i := by simp [bufAt]
theorem bufAt_full (L Q n : Nat) : bufAt L Q n n = #[] := by simp [bufAt]
theorem bufAt_cons {L Q n i : Nat} (h : i < n) : bufAt L Q n i = (clo L Q i :: (bufAt L Q n (i + 1)).toList).toArray := by
  have e : n - i = (n - (i + 1)) + 1 := by omega
  simp only [bufAt]
  rw [e, List.range'_succ, List.map_cons]
theorem bufAt_first {L Q n i : Nat} (h : i < n) : (bufAt L Q n i).getD 0 undef = clo L Q i := by rw [bufAt_cons h]; simp
theorem bufAt_rest {L Q n i : Nat} (h : i < n) : (bufAt L Q n i).extract 1 (bufAt L Q n i).size = bufAt L Q n (i + 1) := by
  rw [bufAt_cons h]
  have e : (List.take (bufAt L Q n (i + 1)).size (bufAt L Q n (i + 1)).toList) = (bufAt L Q n (i + 1)).toList := List.take_of_length_le (by simp)
  simp [e]

def Sy (C L X D G base k : Nat) : Prop := k = C ∨ k = G ∨ Sx L X D base k

theorem Fr.mono {S S' : Nat → Prop} {w w' : World} (h : Fr S w w') (hs : ∀ k, S k → S' k) : Fr S' w w' := ⟨h.os, h.tape, h.output, h.size, fun k hk hn => h.block k hk (fun e => hn (hs k e))⟩

theorem Boxes.kept {Q n : Nat} {K : Nat → Bool} {V : Nat → Int} {w w' : World} {S : Nat → Prop} (b : Boxes Q n K V w) (h : Fr S w w') (hs : ∀ j, Q ≤ j → j < Q + 3 * n → ¬ S j) : Boxes Q n K V w' :=
  ⟨fun i hi => h.cell (b.idx i hi) (hs _ (by simp) (by simp; omega)), fun i hi => h.cell (b.kind i hi) (hs _ (by simp; omega) (by simp; omega)), fun i hi => h.cell (b.val i hi) (hs _ (by simp; omega) (by simp; omega))⟩

theorem Inv.kept {L X C D base n : Nat} {K : Nat → Bool} {V : Nat → Int} {i : Nat} {w w' : World} (h : Inv L X C D base n K V i w) (hs : w.heap.size ≤ w'.heap.size)
    (g : ∀ k, Sx L X D base k → w'.heap[k]? = w.heap[k]?) : Inv L X C D base n K V i w' := by
  obtain ⟨h1, ⟨lv, h2, h3⟩, h4, ⟨b, s', r', h5, h6⟩⟩ := h
  refine ⟨Nat.le_trans h1 hs, ⟨lv, (g L (Or.inl rfl)).trans h2, h3.1, ?_⟩, (g X (Or.inr (Or.inl rfl))).trans h4, ⟨b, s', r', (g D (Or.inr (Or.inr (Or.inl rfl)))).trans h5, h6⟩⟩
  rcases h3.2 with h | ⟨gb, cap, cur, k1, k2, k3, k4⟩
  · exact .inl h
  · exact .inr ⟨gb, cap, cur, k1, k2, (g gb (Or.inr (Or.inr (Or.inr k2)))).trans k3, k4⟩

theorem Inv.ofChan {L X C D base n : Nat} {K : Nat → Bool} {V : Nat → Int} {i : Nat} {w : World} (h : Inv L X C D base n K V i w) (buf : Array Value) (cl : Bool) (s r : Nat) (tm : Bool)
    (hL : C ≠ L) (hX : C ≠ X) (hD : C ≠ D) (hb : C < base) : Inv L X C D base n K V i (w.setChan C n buf cl s r tm) :=
  h.kept (by simp [World.setChan]) fun k hk => by
    simp only [World.setChan]
    rw [Array.getElem?_setIfInBounds_ne (by rcases hk with h | h | h | h <;> omega)]

/-- The channel of calls is closed and empty. -/
def Emptied (C n : Nat) (w : World) : Prop := ∃ s r tm, w.heap[C]? = some (.chan n #[] true s r tm)

set_option maxRecDepth 100000 in
set_option maxHeartbeats 1600000 in
theorem serve_any (C L Q D X G base n : Nat) (K : Nat → Bool) (V : Nat → Int) (s0 r0 : Nat) (tm0 : Bool) (w : World) (hn : n ≤ 4096) (hC : C < L) (hL : L < Q) (hQ : Q + 3 * n ≤ D) (hDX : D < X) (hXG : X < G) (hG : G < base)
    (inv : Inv L X C D base n K V 0 w) (bx : Boxes Q n K V w) (hc : w.heap[C]? = some (.chan n (bufAt L Q n 0) true s0 r0 tm0))
    (hg : w.cell? ⟨G, 0, none⟩ = some (.int .u64 4294967296)) (fg : w.frozen? ⟨G, 0, none⟩ = false) :
    Calls Yba.prog 11 #[.pointer (some ⟨X, 0, none⟩), .pointer (some ⟨G, 0, none⟩)] w fun e w' => e = .returned (.tuple #[]) ∧ Inv L X C D base n K V n w' ∧ Fr (Sy C L X D G base) w w' ∧ Emptied C n w' ∧ w'.cell? ⟨G, 0, none⟩ = some (.int .u64 0) := by
  have hx0 : w.cell? ⟨X, 0, none⟩ = some (.chan (some C)) := by simp [World.cell?, inv.x]
  have INV := hideC inv
  have BX := hideC bx
  have HC := hideC hc
  clear inv bx hc
  go_enter_defers Yba.func11, Yba.ntmps11
  go_wp2_with fail
  go_loopg [10] n (fun g _ wr => ∃ k : Nat, k ≤ n ∧ g = n - k ∧ Inv L X C D base n K V k wr ∧ Fr (fun j => j = C ∨ Sx L X D base j) w wr ∧ ∃ s r tm, wr.heap[C]? = some (.chan n (bufAt L Q n k) true s r tm))
  case atStart => exact ⟨0, Nat.zero_le _, rfl, INV.out, Fr.refl _ _, _, _, _, HC.out⟩
  case round =>
    obtain ⟨k, hk, rfl, hi, hf, s, r, tm, hch⟩ := hrel
    go_upto_region 2 with fail
    refine wp_region_ops ?_
    show OpsW _ _ _ [0, 1] _ _
    by_cases hlt : k < n
    · refine OpsW.recv true (c := C) (z := .nilFunc) (w' := wr) rfl rfl (by simp [go_sem, rcase]) hch (by rw [bufAt_size]; omega) ?_
      rw [bufAt_first hlt, bufAt_rest hlt]
      refine OpsW.value (v := .bool true) (w' := wr.setChan C n (bufAt L Q n (k + 1)) true s (r + 1) tm) rfl rfl (by simp [go_sem, got]) ?_
      refine OpsW.nil ?_
      simp only [Act.put, got, List.setIfInBounds_toArray, if_true, Exit.then]
      have hi2 := hi.ofChan (bufAt L Q n (k + 1)) true s (r + 1) tm (by omega) (by omega) (by omega) (by omega)
      have hf2 : Fr (fun j => j = C ∨ Sx L X D base j) w (wr.setChan C n (bufAt L Q n (k + 1)) true s (r + 1) tm) := hf.setChan _ _ _ _ _ _ _ (Or.inl rfl)
      have hc2 := heap_setChan wr C n (bufAt L Q n (k + 1)) true s (r + 1) tm (lt_of_heap hch)
      have hb2 : Boxes Q n K V (wr.setChan C n (bufAt L Q n (k + 1)) true s (r + 1) tm) := BX.out.kept hf2 (fun j h1 h2 h => by rcases h with h | h | h | h | h <;> omega)
      have hcall := run_any L X C D Q base n k K V _ hlt hn hi2 hb2 hL hQ hDX (by omega)
      generalize wr.setChan C n (bufAt L Q n (k + 1)) true s (r + 1) tm = wx at hi2 hf2 hc2 hb2 hcall ⊢
      have HCALL := hideC hcall
      clear hcall hi hf hch hb2 hi2
      go_wp2_with (first | (go_at_call 35; refine HCALL.out.mono ?_; rintro e w3 ⟨rfl, hi3, hf3⟩) | fail)
      have hc3 : w3.heap[C]? = some (.chan n (bufAt L Q n (k + 1)) true s (r + 1) tm) := (hf3.block C (lt_of_heap hc2) (fun h => by rcases h with h | h | h | h <;> omega)).trans hc2
      have hf4 : Fr (fun j => j = C ∨ Sx L X D base j) w w3 := hf2.trans (hf3.mono (fun j h => Or.inr h))
      clear hf2 hf3 hc2
      go_roundg (n - (k + 1))
      case measure => go_light; omega
      case rel => exact ⟨k + 1, hlt, rfl, hi3, hf4, s, r + 1, tm, hc3⟩
    · obtain rfl : k = n := by omega
      rw [bufAt_full] at hch
      refine OpsW.shut true (c := C) (z := .nilFunc) (w' := wr) rfl rfl (by simp [go_sem, rcase]) hch ?_
      refine OpsW.value (v := .bool false) (w' := wr) rfl rfl (by simp [go_sem, got]) ?_
      refine OpsW.nil ?_
      simp only [Act.put, got, List.setIfInBounds_toArray, if_true, Exit.then]
      go_wp2_with fail
      have hg2 : wr.cell? ⟨G, 0, none⟩ = some (.int .u64 4294967296) := hf.cell hg (fun h => by simp [Sx] at h; omega)
      have fg2 : wr.frozen? ⟨G, 0, none⟩ = false := by
        rw [World.frozen?_of_block (w := w) (hf.block G (World.block_lt_of_cell? _ _ hg) (fun h => by simp [Sx] at h; omega))]; exact fg
      refine leaves_cons (f := 34) (args := #[.pointer (some ⟨G, 0, none⟩)]) (by simp) (by simp [go_sem]) ?_
      refine (wg_done G .returning wr hg2 fg2).mono ?_
      rintro e u' w5 ⟨rfl, rfl, rfl⟩
      simp only [settle]
      refine ⟨_, results_none rfl _ _ _, rfl, ?_, ?_, ?_, ?_⟩
      · refine hi.kept (Below.setCell (Below.refl 0 wr) (p := ⟨G, 0, none⟩) (Nat.zero_le _) _).size fun j hj => Below.heap_setCell wr ⟨G, 0, none⟩ _ j ?_
        rcases hj with h | h | h | h <;> simp <;> omega
      · exact Fr.setCell (hf.mono (fun j h => h.elim Or.inl (fun h => Or.inr (Or.inr h)))) _ _ (Or.inr (Or.inl rfl))
      · exact ⟨s, r, tm, (Below.heap_setCell wr ⟨G, 0, none⟩ _ C (by simp; omega)).trans hch⟩
      · exact World.cell?_setCell_same wr _ _ hg2
end Go.Proofs.Ybulkdhie
