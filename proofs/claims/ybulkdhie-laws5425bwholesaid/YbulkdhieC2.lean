/-
  forkstream.LawS5425BWhole: zzs5425bval (8), the closure that is sent (9), the deferred closure of run (46).
-/
import Derived.Test.YbulkdhieC1
import Derived.OwnWalk
import Derived.Maps.AppendAt
import Derived.Below
import Derived.Deep.AppendLies
import Derived.Orders
namespace Go.Proofs.Ybulkdhie
open Go.RowKit Go.Conc Go.Proofs.Ybulkdhie.Lone

/-- All blocks of w but those of S stand in w'. -/
structure Fr (S : Nat → Prop) (w w' : World) : Prop where
  os : w'.os = w.os
  tape : w'.tape = w.tape
  output : w'.output = w.output
  size : w.heap.size ≤ w'.heap.size
  block : ∀ k, k < w.heap.size → ¬ S k → w'.heap[k]? = w.heap[k]?

namespace Fr
variable {S : Nat → Prop} {a w w' : World}
theorem refl (S : Nat → Prop) (w : World) : Fr S w w := ⟨rfl, rfl, rfl, Nat.le_refl _, fun _ _ _ => rfl⟩
theorem trans {b c : World} (h : Fr S a b) (k : Fr S b c) : Fr S a c :=
  ⟨k.os.trans h.os, k.tape.trans h.tape, k.output.trans h.output, Nat.le_trans h.size k.size, fun i hi hs => (k.block i (Nat.lt_of_lt_of_le hi h.size) hs).trans (h.block i hi hs)⟩
theorem alloc (h : Fr S a w) (o : Obj) : Fr S a (w.alloc o) :=
  h.trans ⟨rfl, rfl, rfl, by simp, fun k hk _ => Below.heap_alloc w o k hk⟩
theorem setCell (h : Fr S a w) (p : Addr) (u : Value) (hp : S p.block) : Fr S a (w.setCell p u) := by
  have hb := Below.setCell (Below.refl 0 w) (p := p) (Nat.zero_le _) u
  exact h.trans ⟨hb.os, hb.tape, hb.output, hb.size, fun k _ hs => Below.heap_setCell w p u k (fun e => hs (e ▸ hp))⟩
theorem setChan (h : Fr S a w) (c cap : Nat) (buf : Array Value) (cl : Bool) (s r : Nat) (tm : Bool) (hc : S c) : Fr S a (w.setChan c cap buf cl s r tm) :=
  h.trans ⟨rfl, rfl, rfl, by simp [World.setChan], fun k _ hs => by
    have hne : c ≠ k := fun e => hs (by rw [← e]; exact hc)
    simp only [World.setChan]
    rw [Array.getElem?_setIfInBounds_ne hne]⟩
theorem grown {row : Option Nat} (h : Fr S a w) (hg : w.grownBy w' row) (hr : ∀ k, row = some k → S k) : Fr S a w' :=
  h.trans ⟨hg.os, hg.tape, hg.output, hg.size, fun k hk hs => hg.block k hk (fun e => hs (hr k e.symm))⟩
theorem drew (h : Fr S a w) : Fr S a w.drew := ⟨h.os, h.tape, h.output, h.size, h.block⟩
theorem cell (h : Fr S w w') {p : Addr} {v : Value} (hp : w.cell? p = some v) (hs : ¬ S p.block) : w'.cell? p = some v := by
  rw [World.cell?_of_block (w := w) (h.block p.block (World.block_lt_of_cell? _ _ hp) hs)]; exact hp
end Fr

theorem heap_setCell_at {w : World} {b o : Nat} {c : Array Value} {e : TypeId} {f : Nat × Nat} (v : Value) (h : w.heap[b]? = some (.cells c e f)) :
    (w.setCell ⟨b, o, none⟩ v).heap[b]? = some (.cells (c.setIfInBounds o v) e f) := by
  simp [World.setCell, Array.getElem?_modify, h]

/-- What zzs5425bval answers. -/
def valAt (m : Nat) (vs : Nat → Int) (i : Nat) : Int := if i < m then vs i else (i : Int) + 1

set_option maxRecDepth 100000 in
theorem val_any (a : Option Addr) (m c b o i : Nat) (vs : Nat → Int) (w : World) (hi : i ≤ 4096) (h0 : 0 < m → a = some ⟨b, o, none⟩) (hv : ∀ j, j < m → w.cell? ⟨b, o + j, none⟩ = some (.int .i64 (vs j))) :
    Calls Yba.prog 8 #[.slice a m c, .int .i64 i] w fun e w' => e = .returned (.int .i64 (valAt m vs i)) ∧ w' = w := by
  by_cases h : i < m
  · obtain rfl := h0 (by omega)
    have h1 := hv i h
    have hz : (i : Int) < (m : Int) := by omega
    clear hv h0
    go_enter Yba.func8, Yba.ntmps8
    go_wp2
    go_ret
    exact ⟨by simp [valAt, h], rfl⟩
  · have hz : ¬ (i : Int) < (m : Int) := by omega
    clear hv h0
    go_enter Yba.func8, Yba.ntmps8
    go_wp2
    go_ret
    refine ⟨?_, rfl⟩
    simp [valAt, h]

theorem Yba.info3 : (Yba.prog.info? 3).map (fun i => (i.zero, i.size, i.bytes)) = some (some (.int .i64 0), 1, 8) := by kernel_rfl

theorem form1 {w : World} {base : Nat} {v : Value} {k : Nat} {xs : List Value} (h : w.ownsRow base 3 1 v (k + 1) xs) : ∃ g cap, v = .slice (some ⟨g, 0, none⟩) (k + 1) cap := by
  rcases h.2 with ⟨_, h⟩ | ⟨g, cap, _, h, _⟩
  · omega
  · exact ⟨g, cap, h⟩

set_option maxRecDepth 100000 in
set_option maxHeartbeats 1600000 in
/-- The closure that is sent: it appends its index to the log, then returns or panics. -/
theorem clo_any (L I Pb Vb base k : Nat) (p : Bool) (v : Int) (lv : Value) (xs : List Value) (S : Nat → Prop) (w : World)
    (hL : w.heap[L]? = some (.cells #[lv] 24 (0, 0))) (hI : w.cell? ⟨I, 0, none⟩ = some (.int .i64 k)) (hP : w.cell? ⟨Pb, 0, none⟩ = some (.bool p)) (hV : w.cell? ⟨Vb, 0, none⟩ = some (.int .i64 v))
    (hown : w.ownsRow base 3 1 lv k xs) (hk : k ≤ 4096) (hbase : base ≤ w.heap.size) (bL : L < base) (bP : Pb < base) (bV : Vb < base) (nP : Pb ≠ L) (nV : Vb ≠ L) (sL : S L) (sR : ∀ j, lv.ownBlock = some j → S j) :
    Calls Yba.prog 9 #[.pointer (some ⟨L, 0, none⟩), .pointer (some ⟨I, 0, none⟩), .pointer (some ⟨Pb, 0, none⟩), .pointer (some ⟨Vb, 0, none⟩)] w fun e w' =>
      e = (if p = true then .panicked [{ v := .iface 3 (.int .i64 v), recovered := false }] else .returned (.tuple #[])) ∧
      Fr S w w' ∧ ∃ lv', w'.heap[L]? = some (.cells #[lv'] 24 (0, 0)) ∧ w'.ownsRow base 3 1 lv' (k + 1) (xs ++ [.int .i64 k]) := by
  obtain ⟨i0, hi, hz0, hz1, hz2⟩ := info_parts Yba.info3
  have hL' : w.cell? ⟨L, 0, none⟩ = some lv := by simp [World.cell?, hL]
  have key : ∀ (v' : Value) (w1 : World), w1.ownsRow base 3 1 v' (k + 1) (xs ++ [.int .i64 k]) → (w.alloc (.cells #[.int .i64 k] 3 (0, 0))).grownBy w1 lv.ownBlock →
      w1.cell? ⟨L, 0, none⟩ = some lv ∧ w1.frozen? ⟨L, 0, none⟩ = false ∧ (w1.setCell ⟨L, 0, none⟩ v').cell? ⟨Pb, 0, none⟩ = some (.bool p) ∧ (w1.setCell ⟨L, 0, none⟩ v').cell? ⟨Vb, 0, none⟩ = some (.int .i64 v) ∧
      Fr S w (w1.setCell ⟨L, 0, none⟩ v') ∧ (w1.setCell ⟨L, 0, none⟩ v').heap[L]? = some (.cells #[v'] 24 (0, 0)) ∧ (w1.setCell ⟨L, 0, none⟩ v').ownsRow base 3 1 v' (k + 1) (xs ++ [.int .i64 k]) := by
    intro v' w1 ho hg
    have hne : ∀ j, j < base → some j ≠ lv.ownBlock := fun j hj e => by have := (hown.lt j e.symm).1; omega
    have hb : ∀ j, j < base → w1.heap[j]? = w.heap[j]? := fun j hj => by
      rw [hg.block j (by simp; omega) (hne j hj)]; exact Below.heap_alloc w _ j (by omega)
    have c1 : w1.heap[L]? = some (.cells #[lv] 24 (0, 0)) := (hb L bL).trans hL
    have c2 : (w1.setCell ⟨L, 0, none⟩ v').heap[L]? = some (.cells #[v'] 24 (0, 0)) := heap_setCell_at v' c1
    refine ⟨by simp [World.cell?, c1], by simp [World.frozen?, c1], ?_, ?_, ?_, c2, ?_⟩
    · rw [World.cell?_of_block (w := w1) (Below.heap_setCell w1 _ v' Pb (by simpa using nP)), World.cell?_of_block (w := w) (hb Pb bP)]; exact hP
    · rw [World.cell?_of_block (w := w1) (Below.heap_setCell w1 _ v' Vb (by simpa using nV)), World.cell?_of_block (w := w) (hb Vb bV)]; exact hV
    · exact (((Fr.refl S w).alloc _).grown hg (fun j e => sR j e)).setCell _ _ sL
    · refine ho.kept (row := some L) ⟨?_, ?_, ?_, ?_, fun j _ hj => Below.heap_setCell w1 _ v' j (fun e => hj (by rw [e]))⟩ ?_
      · exact (Below.setCell (Below.refl 0 w1) (p := ⟨L, 0, none⟩) (Nat.zero_le _) v').os
      · exact (Below.setCell (Below.refl 0 w1) (p := ⟨L, 0, none⟩) (Nat.zero_le _) v').tape
      · exact (Below.setCell (Below.refl 0 w1) (p := ⟨L, 0, none⟩) (Nat.zero_le _) v').output
      · exact (Below.setCell (Below.refl 0 w1) (p := ⟨L, 0, none⟩) (Nat.zero_le _) v').size
      · right; intro e; have := (ho.lt L e).1; omega
  have KEY := hideC key
  clear key
  go_enter Yba.func9, Yba.ntmps9
  go_wp2_with (first | (at_builtin; refine wpList_append_own_at _ rfl _ _ 24 rfl base 3 i0 (.int .i64 0) 1 8 Yba.underlying24 hi hz0 hz1 hz2 rfl (by decide) _ _ _ rfl (hown.alloc _) ⟨w.heap.size, 0, none⟩ 1 1 [.int .i64 k] rfl rfl (cell_one_new _ _ _) (ints_oneCell .i64 [(k : Int)]) (by unfold maxLen; omega) (by omega) (by simp; omega) ?_; intro v' w1 hown' hgrow hnil hloc; obtain ⟨g, cp, rfl⟩ := form1 hown'; obtain ⟨q1, q2, q3, q4, q5, q6, q7⟩ := KEY.out _ w1 hown' hgrow; clear hnil hloc hgrow hown') | fail)
  go_wp2
  all_goals first
    | exact ⟨rfl, rfl, q5, _, q6, q7⟩
    | (go_end0; exact ⟨rfl, q5, _, q6, q7⟩)

/-! ### a region with recover that draws its order -/
def orders (md : Region.Mode) (ops : Array Oper) : Nat → Array Bool → List (List Nat)
  | 0, _ => [[]]
  | fuel + 1, listed => match Region.ready md ops listed with
    | [] => [[]]
    | rs => rs.flatMap fun i => (orders md ops fuel (listed.setIfInBounds i true)).map (i :: ·)

theorem mem_orders (md : Region.Mode) (ops : Array Oper) : ∀ (fuel t : Nat) (listed : Array Bool), Region.linearise.go md ops fuel t listed [] ∈ orders md ops fuel listed := by
  intro fuel
  induction fuel with
  | zero => intro t listed; simp [Region.linearise.go, orders]
  | succ fuel ih =>
    intro t listed
    simp only [Region.linearise.go, orders]
    change (match (Region.ready md ops listed)[t % (Region.ready md ops listed).length]? with
      | some i => Region.linearise.go md ops fuel (t / (Region.ready md ops listed).length) (listed.setIfInBounds i true) [i]
      | none => [].reverse) ∈ _
    cases hr : Region.ready md ops listed with
    | nil => simp
    | cons x xs =>
      have hlt : t % (x :: xs).length < (x :: xs).length := Nat.mod_lt _ (by simp)
      rw [List.getElem?_eq_getElem hlt]
      simp only []
      rw [linearise_go_acc, List.reverse_singleton, List.singleton_append]
      refine List.mem_flatMap.2 ⟨_, List.getElem_mem hlt, List.mem_map.2 ⟨_, ih _ _, rfl⟩⟩

theorem wpS_region_orders {P : Program} {ops : Array Oper} {id : Nat} {Q : Exit → Act → List Frame → World → Prop} {a : Act} {w : World} {cs : List Frame} (os : List (List Nat)) (hm : P.follows .mixedOrders = true)
    (ho : (orders .any ops ops.size (Array.replicate ops.size false)).all (fun l => os.contains l) = true) (h : ∀ l ∈ os, wpOpsS P ops Q l a cs w.drew) : (Code.region id ops true).wpS P Q a cs w :=
  wpS_region_draw fun t => by
    simp only [Region.schedule, hm, Bool.true_or, if_true]
    have := List.all_eq_true.1 ho _ (mem_orders .any ops ops.size t _)
    exact h _ (List.contains_iff_mem.1 this)

theorem follows : Yba.prog.follows .mixedOrders = true := by kernel_rfl

section
variable (bx X D n : Nat) (w : World) {buf : Array Value} {s r : Nat} {tm : Bool} {x0 x3 : Value}

theorem OpsW.nil {P : Program} {ops : Array Oper} {Q : Exit → Act → World → Prop} {a : Act} {w : World} (h : Q .normal a w) : OpsW P ops Q [] a w := OpsW.of_wp h

set_option maxRecDepth 100000 in
/-- The deferred closure where the call returned. -/
theorem d46_ret (u : FrameMode) (hbx : w.cell? ⟨bx, 0, none⟩ = some (.pointer (some ⟨X, 0, none⟩))) (hX : w.heap[X]? = some (.cells #[x0, .chan (some D), .bool true, x3] 30 (0, 0)))
    (hD : w.heap[D]? = some (.chan n buf false s r tm)) (hn : buf.size < n) :
    CallsD Yba.prog 46 #[.pointer (some ⟨bx, 0, none⟩)] u w fun e u' w' => u' = u ∧ e = .returned (.tuple #[]) ∧ w' = w.setChan D n (buf.push (.agg #[])) false (s + 1) r tm := by
  have h1 : w.cell? ⟨X, 1, none⟩ = some (.chan (some D)) := by simp [World.cell?, hX]
  have h2 : w.cell? ⟨X, 2, none⟩ = some (.bool true) := by simp [World.cell?, hX]
  go_enter_d Yba.func46, Yba.ntmps46
  go_upto_region 2 with fail
  refine wp_region_ops ?_
  show OpsW _ _ _ [0, 1, 2, 3, 4, 5] _ _
  refine OpsW.value (v := .pointer (some ⟨X, 0, none⟩)) (w' := w) rfl rfl (by simp [go_sem, hbx]) ?_
  refine OpsW.value (v := .pointer (some ⟨X, 0, none⟩)) (w' := w) rfl rfl (by simp [go_sem]) ?_
  refine OpsW.value (v := .pointer (some ⟨X, 1, none⟩)) (w' := w) rfl rfl (by simp [go_sem]) ?_
  refine OpsW.value (v := .chan (some D)) (w' := w) rfl rfl (by simp [go_sem, h1]) ?_
  refine OpsW.value (v := .agg #[]) (w' := w) rfl rfl (by simp [go_sem]) ?_
  refine OpsW.send (c := D) (v := .agg #[]) (z := .tuple #[]) (w' := w) rfl rfl (by simp [execOp, scase, Act.eval, Act.put]) hD hn ?_
  refine OpsW.nil ?_
  refine bodyPost_end (results_none rfl _ _ _) rfl ?_
  exact ⟨rfl, rfl⟩

set_option maxRecDepth 100000 in
/-- The deferred closure where the call panicked. -/
theorem d46_pan (t : TypeId) (pv : Value) (older : List PanicEntry) (hbx : w.cell? ⟨bx, 0, none⟩ = some (.pointer (some ⟨X, 0, none⟩))) (hX : w.heap[X]? = some (.cells #[x0, .chan (some D), .bool false, x3] 30 (0, 0)))
    (hD : w.heap[D]? = some (.chan n buf false s r tm)) (hn : buf.size < n) (hXD : X ≠ D) (hbX : bx ≠ X) :
    CallsD Yba.prog 46 #[.pointer (some ⟨bx, 0, none⟩)] (.panicking ({ v := .iface t pv, recovered := false } :: older)) w fun e u' w' => u' = .panicking ({ v := .iface t pv, recovered := true } :: older) ∧ e = .returned (.tuple #[]) ∧
      w' = (w.setCell ⟨X, 3, none⟩ (.iface t pv)).drew.setChan D n (buf.push (.agg #[])) false (s + 1) r tm := by
  have h1 : w.cell? ⟨X, 1, none⟩ = some (.chan (some D)) := by simp [World.cell?, hX]
  have h2 : w.cell? ⟨X, 2, none⟩ = some (.bool false) := by simp [World.cell?, hX]
  have h4 : w.cell? ⟨X, 3, none⟩ = some x3 := by simp [World.cell?, hX]
  have f4 : w.frozen? ⟨X, 3, none⟩ = false := by simp [World.frozen?, hX]
  have hnot : ∀ (x : Bool) (w : World), (Op.unary .not (.bool x)).run Yba.prog w = .ok (.bool (!x)) w := fun _ _ => rfl
  refine callsD_of_wpS Yba.func46 rfl fun c₀ cs hu => ?_
  simp only [Yba.ntmps46, List.size_toArray, List.length_cons, List.length_nil, Nat.reduceAdd, Nat.reduceSub, Array.replicate_succ,
    Array.replicate_zero, List.push_toArray, List.append_toArray, List.nil_append, List.cons_append]
  apply wpS_seq
  apply wpS_seq
  apply wpS_region
  simp [wpOpsS, go_sem, Exit.thenS, hbx, h2]
  refine wpS_cond (t := true) (by simp [Act.eval]) ?_
  simp only [if_true]
  refine wpS_region_orders [[0, 1, 2, 3, 4], [0, 2, 1, 3, 4], [0, 2, 3, 1, 4], [1, 0, 2, 3, 4]] follows (by kernel_rfl) ?_
  have hwd : w.drew.cell? ⟨bx, 0, none⟩ = some (.pointer (some ⟨X, 0, none⟩)) := hbx
  have hXd : w.drew.cell? ⟨X, 3, none⟩ = some x3 := h4
  have hfd : w.drew.frozen? ⟨X, 3, none⟩ = false := f4
  have e1 : (w.setCell ⟨X, 3, none⟩ (.iface t pv)).drew.cell? ⟨bx, 0, none⟩ = some (.pointer (some ⟨X, 0, none⟩)) := by
    rw [World.cell?_drew, World.cell?_of_block (w := w) (Below.heap_setCell w ⟨X, 3, none⟩ _ bx hbX)]; exact hbx
  have hX2 := heap_setCell_at (o := 3) (.iface t pv) hX
  have e2 : (w.setCell ⟨X, 3, none⟩ (.iface t pv)).drew.cell? ⟨X, 1, none⟩ = some (.chan (some D)) := by
    rw [World.cell?_drew]; simp [World.cell?, hX2]
  have e3 : (w.setCell ⟨X, 3, none⟩ (.iface t pv)).drew.heap[D]? = some (.chan n buf false s r tm) :=
    (Below.heap_setCell w ⟨X, 3, none⟩ _ D (fun h => hXD h.symm)).trans hD
  intro l hl
  simp only [List.mem_cons, List.not_mem_nil, or_false] at hl
  rcases hl with rfl | rfl | rfl | rfl
  all_goals
    simp [wpOpsS, go_sem, Exit.thenS, hwd, hXd, hfd, recoverD, hu]
    refine wpS_of_wp (wp_region_ops ?_)
    show OpsW _ _ _ [0, 1, 2, 3, 4, 5] _ _
    refine OpsW.value (v := .pointer (some ⟨X, 0, none⟩)) (w' := (w.setCell ⟨X, 3, none⟩ (.iface t pv)).drew) rfl rfl (by simp [go_sem, e1]) ?_
    refine OpsW.value (v := .pointer (some ⟨X, 0, none⟩)) (w' := (w.setCell ⟨X, 3, none⟩ (.iface t pv)).drew) rfl rfl (by simp [go_sem]) ?_
    refine OpsW.value (v := .pointer (some ⟨X, 1, none⟩)) (w' := (w.setCell ⟨X, 3, none⟩ (.iface t pv)).drew) rfl rfl (by simp [go_sem]) ?_
    refine OpsW.value (v := .chan (some D)) (w' := (w.setCell ⟨X, 3, none⟩ (.iface t pv)).drew) rfl rfl (by simp [go_sem, e2]) ?_
    refine OpsW.value (v := .agg #[]) (w' := (w.setCell ⟨X, 3, none⟩ (.iface t pv)).drew) rfl rfl (by simp [go_sem]) ?_
    refine OpsW.send (c := D) (v := .agg #[]) (z := .tuple #[]) (w' := (w.setCell ⟨X, 3, none⟩ (.iface t pv)).drew) rfl rfl (by simp [execOp, scase, Act.eval, Act.put]) e3 hn ?_
    refine OpsW.nil ?_
    exact ⟨rfl, _, rfl, _, results_none rfl _ _ _, rfl, rfl, rfl⟩
end
end Go.Proofs.Ybulkdhie
