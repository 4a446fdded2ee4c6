/-
  The walk of holdfast.LawS5429AWhole (function 3).
-/
import Derived.Test.YbulkdhkiA5
namespace Go.Proofs.Ybulkdhki
open Go.RowKit
attribute [-go_sem] loadVar storeVar Instr.build Instr.fill
@[go_sem] theorem loadVar64 (a : Addr) : loadVar 64 a = (do if ← isAgg 64 then pure (.agg (← loadCells a (← sizeOf 64))) else load a) := rfl
@[go_sem] theorem loadVar68 (a : Addr) : loadVar 68 a = (do if ← isAgg 68 then pure (.agg (← loadCells a (← sizeOf 68))) else load a) := rfl
@[go_sem] theorem storeVar64 (a : Addr) (v : Value) : storeVar 64 a v = (do
  if v.cells.size ≠ (← sizeOf 64) then stuck "storeVar: the value has not the size of the variable"
  storeCells a v.cells.toList) := rfl
@[go_sem] theorem storeVar68 (a : Addr) (v : Value) : storeVar 68 a v = (do
  if v.cells.size ≠ (← sizeOf 68) then stuck "storeVar: the value has not the size of the variable"
  storeCells a v.cells.toList) := rfl

theorem add_nought (a : Addr) : a.add 0 = a := by cases a; simp [Addr.add]
@[go_sem] theorem storeVar4 (a : Addr) (b : Bool) (w : World) : (storeVar 4 a (.bool b)).run Yba.prog w = (store a (.bool b)).run Yba.prog w := by
  simp [storeVar, Yba.sizeOf4, Value.cells, storeCells, add_nought]
@[go_sem] theorem storeVar22 (a : Addr) (k : IntKind) (x : Int) (w : World) : (storeVar 22 a (.int k x)).run Yba.prog w = (store a (.int k x)).run Yba.prog w := by
  simp [storeVar, Yba.sizeOf22, Value.cells, storeCells, add_nought]
@[go_sem] theorem storeVar65 (a : Addr) (q : Option Addr) (w : World) : (storeVar 65 a (.pointer q)).run Yba.prog w = (store a (.pointer q)).run Yba.prog w := by
  simp [storeVar, Yba.sizeOf65, Value.cells, storeCells, add_nought]

/-- What stands throughout: the memory that was there, the Validator, its maps' blocks. -/
structure Base (w0 : World) (X bT bF bP : Nat) (sq : Int) (w : World) : Prop where
  bel : Below w0.heap.size w0 w
  st : St X bT bF bP sq w

/-- The blocks of the call's own. -/
structure Own (B X bT bF bP : Nat) : Prop where
  x : B ≤ X
  t : B ≤ bT
  f : B ≤ bF
  p : B ≤ bP
  dX : ¬ Sm bT bF bP X
  d1 : bT ≠ bF
  d2 : bT ≠ bP
  d3 : bF ≠ bP

theorem St.lt {X bT bF bP : Nat} {sq : Int} {w : World} (h : St X bT bF bP sq w) : X < w.heap.size := World.block_lt_of_cell? _ _ h.t
theorem Base.grown {w0 : World} {X bT bF bP : Nat} {sq : Int} {w w' : World} {row : Option Nat} (h : Base w0 X bT bF bP sq w) (hg : w.grownBy w' row) (hr : ∀ k, row = some k → w0.heap.size ≤ k ∧ k ≠ X) : Base w0 X bT bF bP sq w' := by
  have hb : w'.heap[X]? = w.heap[X]? := hg.block X h.st.lt (fun e => (hr X e.symm).2 rfl)
  refine ⟨h.bel.grown hg h.bel.size (fun k e => (hr k e).1), ?_, ?_, ?_, ?_⟩
  · rw [World.cell?_of_block (w := w) hb]; exact h.st.t
  · rw [World.cell?_of_block (w := w) hb]; exact h.st.f
  · rw [World.cell?_of_block (w := w) hb]; exact h.st.s
  · rw [World.cell?_of_block (w := w) hb]; exact h.st.p
theorem Base.drew {w0 : World} {X bT bF bP : Nat} {sq : Int} {w : World} (h : Base w0 X bT bF bP sq w) : Base w0 X bT bF bP sq w.drew := ⟨h.bel.drew, h.st.t, h.st.f, h.st.s, h.st.p⟩

theorem base_start (w : World) (C : Array Value) (sq : Int) (C34 : C[34]? = some (.map (some w.heap.size))) (C35 : C[35]? = some (.map (some (w.heap.size + 1)))) (C36 : C[36]? = some (.int .u32 sq)) (C111 : C[111]? = some (.map (some (w.heap.size + 1 + 1)))) :
    ∀ W, W = (((w.alloc (.map #[] 0)).alloc (.map #[] 0)).alloc (.map #[] 0)).alloc (.cells C 59) → Base w (w.heap.size + 1 + 1 + 1) w.heap.size (w.heap.size + 1) (w.heap.size + 1 + 1) sq W ∧
      MapF W w.heap.size 0 (fun _ => none) ∧ MapF W (w.heap.size + 1) 0 (fun _ => none) ∧ MapF W (w.heap.size + 1 + 1) 0 (fun _ => none) := by
  rintro W rfl
  have e1 : (w.alloc (.map #[] 0)).heap.size = w.heap.size + 1 := by simp
  have e2 : ((w.alloc (.map #[] 0)).alloc (.map #[] 0)).heap.size = w.heap.size + 1 + 1 := by simp
  have e3 : (((w.alloc (.map #[] 0)).alloc (.map #[] 0)).alloc (.map #[] 0)).heap.size = w.heap.size + 1 + 1 + 1 := by simp
  have m1 := (((mapF_made w).kept (World.grownBy_alloc _ (.map #[] 0) none) (by simp)).kept (World.grownBy_alloc _ (.map #[] 0) none) (by simp)).kept (World.grownBy_alloc _ (.cells C 59) none) (by simp)
  have m2 := ((mapF_made (w.alloc (.map #[] 0))).kept (World.grownBy_alloc _ (.map #[] 0) none) (by simp)).kept (World.grownBy_alloc _ (.cells C 59) none) (by simp)
  have m3 := (mapF_made ((w.alloc (.map #[] 0)).alloc (.map #[] 0))).kept (World.grownBy_alloc _ (.cells C 59) none) (by simp)
  rw [e1] at m2
  rw [e2] at m3
  refine ⟨⟨((((Below.refl _ w).alloc (Nat.le_refl _) _).alloc (by simp) _).alloc (by simp; omega) _).alloc (by simp; omega) _, ?_, ?_, ?_, ?_⟩, m1, m2, m3⟩
  all_goals (rw [← e3, cell_new]; assumption)

theorem MapF.grown0 {w w' : World} {b n : Nat} {f : Nat → Option Value} (h : MapF w b n f) (hg : w.grownBy w' none) : MapF w' b n f := h.kept hg (by simp)
theorem Arr.grown {w w' : World} {b : Nat} {g : Nat → Value} {row : Option Nat} (h : Arr w b g) (hg : w.grownBy w' row) (hr : some b ≠ row) : Arr w' b g :=
  ⟨fun j hj => by rw [World.cell?_of_block (w := w) (hg.block b h.lt hr)]; exact h.1 j hj, fun j => by rw [World.frozen?_of_block (w := w) (hg.block b h.lt hr)]; exact h.2 j⟩
theorem Arr.drew {w : World} {b : Nat} {g : Nat → Value} (h : Arr w b g) : Arr w.drew b g := h
theorem Arr.other {w : World} {b : Nat} {g : Nat → Value} (h : Arr w b g) (p : Addr) (v : Value) (hp : b ≠ p.block) : Arr (w.setCell p v) b g :=
  ⟨fun j hj => by rw [World.cell?_of_block (w := w) (Below.heap_setCell w p v b hp)]; exact h.1 j hj, fun j => by rw [World.frozen?_of_block (w := w) (Below.heap_setCell w p v b hp)]; exact h.2 j⟩
theorem Arr.congr {w : World} {b : Nat} {g g' : Nat → Value} (h : Arr w b g) (hg : ∀ j, g j = g' j) : Arr w b g' := ⟨fun j hj => by rw [← hg j]; exact h.1 j hj, h.2⟩
theorem MapF.other {w : World} {b n : Nat} {f : Nat → Option Value} (h : MapF w b n f) (p : Addr) (v : Value) (hp : b ≠ p.block) : MapF (w.setCell p v) b n f := by
  obtain ⟨D, h1, h2⟩ := h
  exact ⟨D, h1.setCell hp v, h2⟩
theorem Base.other {w0 : World} {X bT bF bP : Nat} {sq : Int} {w : World} (h : Base w0 X bT bF bP sq w) (p : Addr) (v : Value) (hp : X ≠ p.block) (hB : w0.heap.size ≤ p.block) : Base w0 X bT bF bP sq (w.setCell p v) := by
  have hb := Below.heap_setCell w p v X hp
  refine ⟨h.bel.setCell hB v, ?_, ?_, ?_, ?_⟩
  · rw [World.cell?_of_block (w := w) hb]; exact h.st.t
  · rw [World.cell?_of_block (w := w) hb]; exact h.st.f
  · rw [World.cell?_of_block (w := w) hb]; exact h.st.s
  · rw [World.cell?_of_block (w := w) hb]; exact h.st.p

/-- While trustedFrom is filled: f is what it holds; the two arrays say the same. -/
structure Ph2 (w0 : World) (X bT bF bP bH bV : Nat) (sq : Int) (n1 k : Nat) (f : Nat → Option Value) (w : World) : Prop where
  bs : Base w0 X bT bF bP sq w
  mT : ∃ f, MapF w bT n1 f
  mF : MapF w bF k f
  mP : MapF w bP 0 (fun _ => none)
  aH : Arr w bH (fun j => .bool (f j).isSome)
  aV : Arr w bV (fun j => (f j).getD (.int .u32 0))
  u : ∀ j v, f j = some v → ∃ x, v = .int .u32 x

/-- .. behind the store into the map, ahead of those into the arrays. -/
structure Ph2b (w0 : World) (X bT bF bP bH bV bx : Nat) (sq : Int) (n1 k : Nat) (f : Nat → Option Value) (j : Nat) (h : Int) (w : World) : Prop where
  bs : Base w0 X bT bF bP sq w
  mT : ∃ f, MapF w bT n1 f
  mF : MapF w bF (k + 1) (upd f j (some (.int .u32 h)))
  mP : MapF w bP 0 (fun _ => none)
  aH : Arr w bH (fun j => .bool (f j).isSome)
  aV : Arr w bV (fun j => (f j).getD (.int .u32 0))
  u : ∀ j v, f j = some v → ∃ x, v = .int .u32 x
  c0 : w.cell? ⟨bx, 0, none⟩ = some (.int .u8 j)
  c1 : w.cell? ⟨bx, 1, none⟩ = some (.int .u32 h)

theorem Ph2b.next {w0 : World} {X bT bF bP bH bV bx : Nat} {sq : Int} {n1 k : Nat} {f : Nat → Option Value} {j : Nat} {h : Int} {w : World} (p : Ph2b w0 X bT bF bP bH bV bx sq n1 k f j h w) (hj : j < 256)
    (lts : bT < bH ∧ bF < bH ∧ bP < bH ∧ X < bH) (hge : w0.heap.size ≤ bH) (hVH : bH < bV) :
    Ph2 w0 X bT bF bP bH bV sq n1 (k + 1) (upd f j (some (.int .u32 h))) ((w.setCell ⟨bH, j, none⟩ (.bool true)).setCell ⟨bV, j, none⟩ (.int .u32 h)) := by
  refine ⟨(p.bs.other _ _ (by simp; omega) (by simp; omega)).other _ _ (by simp; omega) (by simp; omega), let ⟨g, m⟩ := p.mT; ⟨g, (m.other _ _ (by simp; omega)).other _ _ (by simp; omega)⟩, (p.mF.other _ _ (by simp; omega)).other _ _ (by simp; omega), (p.mP.other _ _ (by simp; omega)).other _ _ (by simp; omega), ?_, ?_, fun i v hv => ?_⟩
  · refine ((p.aH.set j hj (.bool true)).other _ _ (by simp; omega)).congr (fun i => ?_)
    by_cases e : i = j <;> simp [upd, e]
  · refine ((p.aV.other _ _ (by simp; omega)).set j hj (.int .u32 h)).congr (fun i => ?_)
    by_cases e : i = j <;> simp [upd, e]
  · by_cases e : i = j
    · simp [upd, e] at hv; exact ⟨h, hv.symm⟩
    · simp [upd, e] at hv; exact p.u i v hv

/-- While proposals is filled: p is what it holds; the two arrays say the same. -/
structure Ph3 (w0 : World) (X bT bF bP bH bV bI bQ : Nat) (sq : Int) (n1 n2 k : Nat) (f p : Nat → Option Value) (w : World) : Prop where
  bs : Base w0 X bT bF bP sq w
  mT : ∃ f, MapF w bT n1 f
  mF : MapF w bF n2 f
  mP : MapF w bP k p
  aH : Arr w bH (fun j => .bool (f j).isSome)
  aV : Arr w bV (fun j => (f j).getD (.int .u32 0))
  u : ∀ j v, f j = some v → ∃ x, v = .int .u32 x
  aI : Arr w bI (fun j => .bool (p j).isSome)
  aQ : Arr w bQ (fun j => (p j).getD (.pointer none))
  v : ∀ j v, p j = some v → ∃ q, v = .pointer q

theorem Ph3.grown {w0 : World} {X bT bF bP bH bV bI bQ : Nat} {sq : Int} {n1 n2 k : Nat} {f p : Nat → Option Value} {w w' : World} (h : Ph3 w0 X bT bF bP bH bV bI bQ sq n1 n2 k f p w) (hg : w.grownBy w' none) : Ph3 w0 X bT bF bP bH bV bI bQ sq n1 n2 k f p w' :=
  ⟨h.bs.grown hg (fun _ e => by cases e), let ⟨g, m⟩ := h.mT; ⟨g, m.grown0 hg⟩, h.mF.grown0 hg, h.mP.grown0 hg, h.aH.grown hg (by simp), h.aV.grown hg (by simp), h.u, h.aI.grown hg (by simp), h.aQ.grown hg (by simp), h.v⟩
theorem Ph3.drew {w0 : World} {X bT bF bP bH bV bI bQ : Nat} {sq : Int} {n1 n2 k : Nat} {f p : Nat → Option Value} {w : World} (h : Ph3 w0 X bT bF bP bH bV bI bQ sq n1 n2 k f p w) : Ph3 w0 X bT bF bP bH bV bI bQ sq n1 n2 k f p w.drew :=
  ⟨h.bs.drew, h.mT, h.mF, h.mP, h.aH, h.aV, h.u, h.aI, h.aQ, h.v⟩

/-- .. behind the store into the map, ahead of those into the arrays. -/
structure Ph3b (w0 : World) (X bT bF bP bH bV bI bQ bx : Nat) (sq : Int) (n1 n2 k : Nat) (f p : Nat → Option Value) (j : Nat) (q : Option Addr) (w : World) : Prop where
  bs : Base w0 X bT bF bP sq w
  mT : ∃ f, MapF w bT n1 f
  mF : MapF w bF n2 f
  mP : MapF w bP (k + 1) (upd p j (some (.pointer q)))
  aH : Arr w bH (fun j => .bool (f j).isSome)
  aV : Arr w bV (fun j => (f j).getD (.int .u32 0))
  u : ∀ j v, f j = some v → ∃ x, v = .int .u32 x
  aI : Arr w bI (fun j => .bool (p j).isSome)
  aQ : Arr w bQ (fun j => (p j).getD (.pointer none))
  v : ∀ j v, p j = some v → ∃ q, v = .pointer q
  c0 : w.cell? ⟨bx, 0, none⟩ = some (.int .u8 j)

theorem Ph3b.next {w0 : World} {X bT bF bP bH bV bI bQ bx : Nat} {sq : Int} {n1 n2 k : Nat} {f p : Nat → Option Value} {j : Nat} {q : Option Addr} {w : World} (h : Ph3b w0 X bT bF bP bH bV bI bQ bx sq n1 n2 k f p j q w) (hj : j < 256)
    (lts : bT < bH ∧ bF < bH ∧ bP < bH ∧ X < bH) (hge : w0.heap.size ≤ bH) (hVH : bH < bV) (hVI : bV < bI) (hIQ : bI < bQ) :
    Ph3 w0 X bT bF bP bH bV bI bQ sq n1 n2 (k + 1) f (upd p j (some (.pointer q))) ((w.setCell ⟨bI, j, none⟩ (.bool true)).setCell ⟨bQ, j, none⟩ (.pointer q)) := by
  refine ⟨(h.bs.other _ _ (by simp; omega) (by simp; omega)).other _ _ (by simp; omega) (by simp; omega), let ⟨g, m⟩ := h.mT; ⟨g, (m.other _ _ (by simp; omega)).other _ _ (by simp; omega)⟩, (h.mF.other _ _ (by simp; omega)).other _ _ (by simp; omega), (h.mP.other _ _ (by simp; omega)).other _ _ (by simp; omega),
    (h.aH.other _ _ (by simp; omega)).other _ _ (by simp; omega), (h.aV.other _ _ (by simp; omega)).other _ _ (by simp; omega), h.u, ?_, ?_, fun i v hv => ?_⟩
  · refine ((h.aI.set j hj (.bool true)).other _ _ (by simp; omega)).congr (fun i => ?_)
    by_cases e : i = j <;> simp [upd, e]
  · refine ((h.aQ.other _ _ (by simp; omega)).set j hj (.pointer q)).congr (fun i => ?_)
    by_cases e : i = j <;> simp [upd, e]
  · by_cases e : i = j
    · simp [upd, e] at hv; exact ⟨q, hv.symm⟩
    · simp [upd, e] at hv; exact h.v i v hv

/-- While the trust list is filled. -/
structure Ph4 (w0 : World) (X bT bF bP bH bV bI bQ bK bN : Nat) (sq : Int) (n1 n2 n3 n4 k : Nat) (f p : Nat → Option Value) (tr : Nat → Nat) (w : World) : Prop where
  p3 : Ph3 w0 X bT bF bP bH bV bI bQ sq n1 n2 n3 f p w
  keys : ∀ i, i < k → KeyAt w bK (0 + i * 32) (tr i)
  there : w.there bK 0 (n4 * 32)
  aN : Arr w bN (fun j => .bool (inTo tr k j))

theorem there_kept {w w' : World} {b o n : Nat} (h : w.there b o n) (hb : w'.heap[b]? = w.heap[b]?) : w'.there b o n := fun j hj => by
  rw [World.cell?_of_block (w := w) hb, World.frozen?_of_block (w := w) hb]; exact h j hj
theorem Ph4.grown {w0 : World} {X bT bF bP bH bV bI bQ bK bN : Nat} {sq : Int} {n1 n2 n3 n4 k : Nat} {f p : Nat → Option Value} {tr : Nat → Nat} {w w' : World} (h : Ph4 w0 X bT bF bP bH bV bI bQ bK bN sq n1 n2 n3 n4 k f p tr w) (hg : w.grownBy w' none) (hK : bK < w.heap.size) :
    Ph4 w0 X bT bF bP bH bV bI bQ bK bN sq n1 n2 n3 n4 k f p tr w' :=
  ⟨h.p3.grown hg, fun i hi => (h.keys i hi).kept (hg.block bK hK (by simp)), there_kept h.there (hg.block bK hK (by simp)), h.aN.grown hg (by simp)⟩
theorem Ph4.there_at {w0 : World} {X bT bF bP bH bV bI bQ bK bN : Nat} {sq : Int} {n1 n2 n3 n4 k : Nat} {f p : Nat → Option Value} {tr : Nat → Nat} {w : World} (h : Ph4 w0 X bT bF bP bH bV bI bQ bK bN sq n1 n2 n3 n4 k f p tr w) (hk : k < n4) : w.there bK (k * 32) 32 := fun j hj => by
  have := h.there (k * 32 + j) (by omega)
  simpa using this
theorem store_midV (w : World) (b o j : Nat) (h : w.there b o 32) : (storeVar 40 ⟨b, o, none⟩ (keyVal j)).run Yba.prog w = .ok () (w.setCells b o (keyCells j).toList) := by
  simpa [Instr.storeAt, Instr.sureAddr] using store_mid w b o j h

theorem fr_setCells (b : Nat) : ∀ (vs : List Value) (o : Nat) (w : World), Fr (fun k => k = b) w (w.setCells b o vs)
  | [], _, w => Fr.refl _ w
  | v :: r, o, w => ((Fr.refl (fun k => k = b) w).setCell ⟨b, o, none⟩ v rfl).trans (fr_setCells b r (o + 1) _)

theorem Ph3.fr {S : Nat → Prop} {w0 : World} {X bT bF bP bH bV bI bQ : Nat} {sq : Int} {n1 n2 k : Nat} {f p : Nat → Option Value} {w w' : World} (h : Ph3 w0 X bT bF bP bH bV bI bQ sq n1 n2 k f p w) (hf : Fr S w w') (hB : ∀ j, S j → w0.heap.size ≤ j)
    (sX : ¬ S X) (sT : ¬ S bT) (sF : ¬ S bF) (sP : ¬ S bP) (sH : ¬ S bH) (sV : ¬ S bV) (sI : ¬ S bI) (sQ : ¬ S bQ) : Ph3 w0 X bT bF bP bH bV bI bQ sq n1 n2 k f p w' :=
  ⟨⟨h.bs.bel.trans ⟨hf.os, hf.tape, hf.output, hf.size, fun j hj => hf.block j (Nat.lt_of_lt_of_le hj h.bs.bel.size) (fun e => by have := hB j e; omega)⟩, h.bs.st.fr hf sX⟩, let ⟨g, m⟩ := h.mT; ⟨g, m.fr hf sT⟩, h.mF.fr hf sF, h.mP.fr hf sP, h.aH.fr hf sH, h.aV.fr hf sV, h.u, h.aI.fr hf sI, h.aQ.fr hf sQ, h.v⟩

theorem Ph4.put {w0 : World} {X bT bF bP bH bV bI bQ bK bN : Nat} {sq : Int} {n1 n2 n3 n4 k : Nat} {f p : Nat → Option Value} {tr : Nat → Nat} {w : World} (h : Ph4 w0 X bT bF bP bH bV bI bQ bK bN sq n1 n2 n3 n4 k f p tr w) (hk : k < n4) (hj : tr k < 256)
    (lts : bT < bH ∧ bF < bH ∧ bP < bH ∧ X < bH ∧ w0.heap.size ≤ bH) (hVH : bH < bV) (hVI : bV < bI) (hIQ : bI < bQ) (hQK : bQ < bK) (hKN : bK < bN) :
    Ph4 w0 X bT bF bP bH bV bI bQ bK bN sq n1 n2 n3 n4 (k + 1) f p tr ((w.setCells bK (k * 32) (keyCells (tr k)).toList).setCell ⟨bN, tr k, none⟩ (.bool true)) ∧ Arr (w.setCells bK (k * 32) (keyCells (tr k)).toList) bN (fun j => .bool (inTo tr k j)) := by
  have hf := fr_setCells bK (keyCells (tr k)).toList (k * 32) w
  have th := h.there_at hk
  have a1 := h.aN.fr hf (by omega)
  have k1 : ∀ i, i < k + 1 → KeyAt (w.setCells bK (k * 32) (keyCells (tr k)).toList) bK (0 + i * 32) (tr i) := fun i hi => by
    by_cases e : i < k
    · exact World.rangeAt_setCells_apart (h.keys i e) _ _ _ (by have : (keyCells (tr i)).toList.length = 32 := rfl; omega)
    · obtain rfl : i = k := by omega
      rw [Nat.zero_add]
      exact World.rangeAt_setCells_same w _ _ _ th
  have hf2 : Fr (fun j => j = bK ∨ j = bN) w ((w.setCells bK (k * 32) (keyCells (tr k)).toList).setCell ⟨bN, tr k, none⟩ (.bool true)) := (hf.mono (fun j e => Or.inl e)).setCell _ _ (Or.inr rfl)
  have hb := Below.heap_setCell (w.setCells bK (k * 32) (keyCells (tr k)).toList) ⟨bN, tr k, none⟩ (.bool true) bK (by simp; omega)
  refine ⟨⟨h.p3.fr hf2 (fun j e => by omega) (by omega) (by omega) (by omega) (by omega) (by omega) (by omega) (by omega) (by omega), fun i hi => (k1 i hi).kept hb, there_kept (World.there_setCells h.there _ _ _) hb, ?_⟩, a1⟩
  refine (a1.set (tr k) hj (.bool true)).congr (fun i => ?_)
  by_cases e : i = tr k
  · simp [upd, inTo, e]
  · have : (tr k == i) = false := by simp; exact fun c => e c.symm
    simp [upd, inTo, e, this]

theorem keyAt_ne {w : World} {cb o j bT bF bP nT nF nP : Nat} {T F Pm : Nat → Option Value} (h : KeyAt w cb o j) (mT : MapF w bT nT T) (mF : MapF w bF nF F) (mP : MapF w bP nP Pm) : ¬ Sm bT bF bP cb := by
  have hc := h 0 (.int .u8 j) rfl
  have no : ∀ b n f, MapF w b n f → cb ≠ b := fun b n f ⟨_, ⟨es, cl, hb, _⟩, _⟩ e => by
    subst e
    simp [World.cell?, hb] at hc
  rintro (e | e | e)
  · exact no _ _ _ mT e
  · exact no _ _ _ mF e
  · exact no _ _ _ mP e

/-- What the last loop reads. -/
structure Fin (w0 : World) (X bT bF bP bH bV bI bQ bN : Nat) (sq : Int) (n4 : Nat) (f p : Nat → Option Value) (tr : Nat → Nat) (w : World) : Prop where
  bs : Base w0 X bT bF bP sq w
  mT : ∃ m, MapF w bT m (setTo tr n4)
  mF : ∃ m, MapF w bF m (fromAll tr n4 f (seqNext sq))
  mP : ∃ m, MapF w bP m (filt tr n4 p)
  aH : Arr w bH (fun j => .bool (f j).isSome)
  aV : Arr w bV (fun j => (f j).getD (.int .u32 0))
  u : ∀ j v, f j = some v → ∃ x, v = .int .u32 x
  aI : Arr w bI (fun j => .bool (p j).isSome)
  aQ : Arr w bQ (fun j => (p j).getD (.pointer none))
  v : ∀ j v, p j = some v → ∃ q, v = .pointer q
  aN : Arr w bN (fun j => .bool (inTo tr n4 j))

theorem Fin.grown {w0 : World} {X bT bF bP bH bV bI bQ bN : Nat} {sq : Int} {n4 : Nat} {f p : Nat → Option Value} {tr : Nat → Nat} {w w' : World} (h : Fin w0 X bT bF bP bH bV bI bQ bN sq n4 f p tr w) (hg : w.grownBy w' none) : Fin w0 X bT bF bP bH bV bI bQ bN sq n4 f p tr w' :=
  ⟨h.bs.grown hg (fun _ e => by cases e), let ⟨g, m⟩ := h.mT; ⟨g, m.grown0 hg⟩, let ⟨g, m⟩ := h.mF; ⟨g, m.grown0 hg⟩, let ⟨g, m⟩ := h.mP; ⟨g, m.grown0 hg⟩, h.aH.grown hg (by simp), h.aV.grown hg (by simp), h.u, h.aI.grown hg (by simp), h.aQ.grown hg (by simp), h.v, h.aN.grown hg (by simp)⟩
theorem Fin.drew {w0 : World} {X bT bF bP bH bV bI bQ bN : Nat} {sq : Int} {n4 : Nat} {f p : Nat → Option Value} {tr : Nat → Nat} {w : World} (h : Fin w0 X bT bF bP bH bV bI bQ bN sq n4 f p tr w) : Fin w0 X bT bF bP bH bV bI bQ bN sq n4 f p tr w.drew :=
  ⟨h.bs.drew, h.mT, h.mF, h.mP, h.aH, h.aV, h.u, h.aI, h.aQ, h.v, h.aN⟩

theorem Fin.drewN {w0 : World} {X bT bF bP bH bV bI bQ bN : Nat} {sq : Int} {n4 : Nat} {f p : Nat → Option Value} {tr : Nat → Nat} {w : World} (h : Fin w0 X bT bF bP bH bV bI bQ bN sq n4 f p tr w) (q : Nat) : Fin w0 X bT bF bP bH bV bI bQ bN sq n4 f p tr (w.drewN q) :=
  ⟨⟨⟨h.bs.bel.os, h.bs.bel.tape, h.bs.bel.output, h.bs.bel.size, h.bs.bel.block⟩, h.bs.st.t, h.bs.st.f, h.bs.st.s, h.bs.st.p⟩, h.mT, h.mF, h.mP, h.aH, h.aV, h.u, h.aI, h.aQ, h.v, h.aN⟩

theorem fin_of {w0 : World} {X bT bF bP bH bV bI bQ bK bN : Nat} {sq : Int} {n1 n2 n3 n4 : Nat} {f p : Nat → Option Value} {tr : Nat → Nat} {w w' : World} (h : Ph4 w0 X bT bF bP bH bV bI bQ bK bN sq n1 n2 n3 n4 n4 f p tr w)
    (hf : Fr (Sm bT bF bP) w w') (mT : MapF w' bT n4 (setTo tr n4)) (mF : ∃ m, MapF w' bF m (fromAll tr n4 f (seqNext sq))) (mP : MapF w' bP n3 (filt tr n4 p))
    (lts : bT < bH ∧ bF < bH ∧ bP < bH ∧ X < bH ∧ w0.heap.size ≤ bH) (hVH : bH < bV) (hVI : bV < bI) (hIQ : bI < bQ) (hQK : bQ < bK) (hKN : bK < bN) (ow : Own w0.heap.size X bT bF bP) : Fin w0 X bT bF bP bH bV bI bQ bN sq n4 f p tr w' :=
  ⟨⟨h.p3.bs.bel.trans ⟨hf.os, hf.tape, hf.output, hf.size, fun j hj => hf.block j (Nat.lt_of_lt_of_le hj h.p3.bs.bel.size) (fun e => by have := ow.t; have := ow.f; have := ow.p; unfold Sm at e; omega)⟩, h.p3.bs.st.fr hf ow.dX⟩, ⟨_, mT⟩, mF, ⟨_, mP⟩,
    h.p3.aH.fr hf (by unfold Sm; omega), h.p3.aV.fr hf (by unfold Sm; omega), h.p3.u, h.p3.aI.fr hf (by unfold Sm; omega), h.p3.aQ.fr hf (by unfold Sm; omega), h.p3.v, h.aN.fr hf (by unfold Sm; omega)⟩

set_option linter.unusedSimpArgs false in
set_option maxRecDepth 100000 in
set_option maxHeartbeats 4000000 in
theorem lawA_any (sq : Int) (a1 a2 a3 a4 : Option Addr) (n1 c1 n2 c2 n3 c3 n4 c4 b1 o1 b2 o2 b3 o3 b4 o4 : Nat) (od fk tr pk : Nat → Nat) (fh ps : Nat → Int) (pn : Nat → Bool) (w : World)
    (hs : n1 + n2 + n3 + n4 ≤ 1048576)
    (h1 : 0 < n1 → a1 = some ⟨b1, o1, none⟩) (g1 : ∀ j, j < n1 → w.cell? ⟨b1, o1 + j, none⟩ = some (.int .u8 (od j : Nat)) ∧ od j < 256)
    (h2 : 0 < n2 → a2 = some ⟨b2, o2, none⟩) (g2 : ∀ j, j < n2 → w.cell? ⟨b2, o2 + j * 2, none⟩ = some (.int .u8 (fk j : Nat)) ∧ w.cell? ⟨b2, o2 + j * 2 + 1, none⟩ = some (.int .u32 (fh j)) ∧ fk j < 256)
    (h3 : 0 < n3 → a3 = some ⟨b3, o3, none⟩) (g3 : ∀ j, j < n3 → w.cell? ⟨b3, o3 + j * 3, none⟩ = some (.int .u8 (pk j : Nat)) ∧ w.cell? ⟨b3, o3 + j * 3 + 1, none⟩ = some (.bool (pn j)) ∧ w.cell? ⟨b3, o3 + j * 3 + 2, none⟩ = some (.int .u32 (ps j)) ∧ pk j < 256)
    (h4 : 0 < n4 → a4 = some ⟨b4, o4, none⟩) (g4 : ∀ j, j < n4 → w.cell? ⟨b4, o4 + j, none⟩ = some (.int .u8 (tr j : Nat)) ∧ tr j < 256) :
    Calls Yba.prog 3 #[.int .u32 sq, .slice a1 n1 c1, .slice a2 n2 c2, .slice a3 n3 c3, .slice a4 n4 c4] w fun e w' => e = .returned (.bool true) ∧ Below w.heap.size w w' := by
  obtain ⟨L, hL, hL0, bL⟩ := build38 sq
  obtain ⟨C, C34, C35, C36, C111, bC⟩ := build59 w.heap.size (w.heap.size + 1) (w.heap.size + 1 + 1) L sq hL hL0
  have hmm := @run_makeMap Yba.prog
  have hz : ¬ (1048576 : Int) < (n1 : Int) + n2 + n3 + n4 := by omega
  have G1 := hide g1
  have G2 := hide g2
  have G3 := hide g3
  have G4 := hide g4
  clear g1 g2 g3 g4
  go_enter Yba.func3, Yba.ntmps3
  go_upto_block 0 with fail
  refine wp_gen fun W hW => ?_
  obtain ⟨base, mT, mF, mP⟩ := base_start w C sq C34 C35 C36 C111 W hW
  have own : Own w.heap.size (w.heap.size + 1 + 1 + 1) w.heap.size (w.heap.size + 1) (w.heap.size + 1 + 1) := ⟨by omega, by omega, by omega, by omega, by unfold Sm; omega, by omega, by omega, by omega⟩
  clear hW C34 C35 C36 C111 bC bL hL hL0 hmm
  generalize w.heap.size + 1 + 1 + 1 = X at base own ⊢
  generalize w.heap.size + 1 + 1 = bP at base own mP ⊢
  generalize w.heap.size + 1 = bF at base own mF ⊢
  obtain ⟨bT, hbT⟩ : ∃ bT, bT = w.heap.size := ⟨_, rfl⟩
  replace base : Base w X bT bF bP sq W := by rw [hbT]; exact base
  replace own : Own w.heap.size X bT bF bP := by rw [hbT]; exact own
  replace mT : MapF W bT 0 (fun _ => none) := by rw [hbT]; exact mT
  clear hbT
  have OW := hide own
  clear own
  go_cut [13, 60] from 61 to 70 (fun _ _ wx => Base w X bT bF bP sq wx ∧ (∃ f, MapF wx bT n1 f) ∧ MapF wx bF 0 (fun _ => none) ∧ MapF wx bP 0 (fun _ => none))
  case first =>
    go_wp2_with fail
    go_loopg [13, 60] n1 (fun g _ i wr => ∃ k : Nat, k ≤ n1 ∧ g = n1 - k ∧ i = .int .i64 k ∧ Base w X bT bF bP sq wr ∧ (∃ f, MapF wr bT k f) ∧ MapF wr bF 0 (fun _ => none) ∧ MapF wr bP 0 (fun _ => none))
    case atStart => exact ⟨0, Nat.zero_le _, rfl, rfl, base, ⟨_, mT⟩, mF, mP⟩
    case round =>
      obtain ⟨k, hk, rfl, rfl, bs, ⟨f, mT1⟩, mF1, mP1⟩ := hrel
      by_cases hlt : k < n1
      · obtain rfl := h1 (by omega)
        have hz2 : (k : Int) < (n1 : Int) := by omega
        have hj := (G1.out k hlt).2
        have r0 : wr.cell? ⟨b1, o1 + k, none⟩ = some (.int .u8 (od k : Nat)) := by rw [bs.bel.cell (p := ⟨b1, o1 + k, none⟩) (World.block_lt_of_cell? _ _ (G1.out k hlt).1)]; exact (G1.out k hlt).1
        have s1 := bs.st.t
        have M := hide (And.intro bs (And.intro mT1 (And.intro mF1 mP1)))
        clear bs mT1 mF1 mP1 base mT mF mP
        go_upto_region 7 with fail
        go_region_with (go_at_call 5; refine (key_any (od k) hj _).mono ?_; rintro e w3 ⟨rfl, hg⟩; have b3 := M.out.1.drew.grown hg (fun _ e => by cases e); have s3 := b3.st.t; obtain ⟨w4, hu, mT4, hg4, hs4⟩ := (M.out.2.1.drew.kept hg (by simp)).store Yba.underlying27 (by unfold maxLen; omega) hj (.bool true); have M4 := hide (And.intro (b3.grown hg4 (fun i e => by cases e; exact ⟨OW.out.t, fun c => OW.out.dX (Or.inl c.symm)⟩)) (And.intro mT4 (And.intro ((M.out.2.2.1.drew.kept hg (by simp)).kept hg4 (by simp; exact fun c => OW.out.d1 c.symm)) ((M.out.2.2.2.drew.kept hg (by simp)).kept hg4 (by simp; exact fun c => OW.out.d2 c.symm))))); clear b3 hg mT4 hg4 hs4)
        all_goals
          go_wp2_with fail
          go_roundg (n1 - (k + 1))
          case measure => go_light; omega
          case rel => go_light; exact ⟨k + 1, hlt, rfl, by go_num, M4.out.1, ⟨_, M4.out.2.1⟩, M4.out.2.2⟩
      · obtain rfl : n1 = k := by omega
        go_wp2
        go_meet
        go_light
        exact ⟨bs, ⟨f, mT1⟩, mF1, mP1⟩
  case rest =>
    rename World => wx
    obtain ⟨bs, mT1, mF1, mP1⟩ := hcut
    obtain ⟨Z1, z1, _, hz1⟩ := zero61
    obtain ⟨Z2, z2, _, hz2⟩ := zero62
    have lts : bT < wx.heap.size ∧ bF < wx.heap.size ∧ bP < wx.heap.size ∧ X < wx.heap.size := ⟨let ⟨_, h⟩ := mT1; h.lt, mF1.lt, mP1.lt, bs.st.lt⟩
    have hge : w.heap.size ≤ wx.heap.size := bs.bel.size
    clear base mT mF mP
    go_upto_block 2 with fail
    refine wp_gen fun W2 hW2 => ?_
    have gA : wx.grownBy W2 none := by rw [hW2]; exact (World.grownBy_alloc _ _ _).trans (World.grownBy_alloc _ _ _)
    have aH : Arr W2 wx.heap.size (fun _ => .bool false) := by
      rw [hW2]; exact (arr_new wx Z1 61 _ z1).fr ((Fr.refl (fun _ => False) _).alloc _) (fun h => h)
    have aV : Arr W2 (wx.heap.size + 1) (fun _ => .int .u32 0) := by
      have := arr_new (wx.alloc (.cells Z1 61)) Z2 62 _ z2
      rw [hW2]; simpa using this
    have bs2 := bs.grown gA (fun _ e => by cases e)
    have mT2 : ∃ f, MapF W2 bT n1 f := let ⟨f, h⟩ := mT1; ⟨f, h.kept gA (by simp)⟩
    have mF2 := mF1.kept gA (by simp)
    have mP2 := mP1.kept gA (by simp)
    clear hW2 gA bs mT1 mF1 mP1 hz1 hz2 z1 z2
    have hVH : wx.heap.size < wx.heap.size + 1 := by omega
    generalize wx.heap.size + 1 = bV at aV hVH ⊢
    generalize wx.heap.size = bH at aH lts hge hVH ⊢
    have ph : Ph2 w X bT bF bP bH bV sq n1 0 (fun _ => none) W2 := ⟨bs2, mT2, mF2, mP2, aH, aV, fun _ _ h => by cases h⟩
    clear bs2 mT2 mF2 mP2 aH aV
    go_cut [17, 73] from 74 to 94 (fun _ _ wy => ∃ f, Ph2 w X bT bF bP bH bV sq n1 n2 f wy)
    case first =>
      go_wp2_with fail
      go_loopg [17, 73] n2 (fun g _ i wr => ∃ k : Nat, k ≤ n2 ∧ g = n2 - k ∧ i = .int .i64 k ∧ ∃ f, Ph2 w X bT bF bP bH bV sq n1 k f wr)
      case atStart => exact ⟨0, Nat.zero_le _, rfl, rfl, _, ph⟩
      case round =>
        obtain ⟨k, hk, rfl, rfl, f, p⟩ := hrel
        by_cases hlt : k < n2
        · obtain rfl := h2 (by omega)
          have hz2 : (k : Int) < (n2 : Int) := by omega
          have hj := (G2.out k hlt).2.2
          have hj2 : ((fk k : Nat) : Int) < 256 := by omega
          have r0 : wr.cell? ⟨b2, o2 + k * 2, none⟩ = some (.int .u8 (fk k : Nat)) := by rw [p.bs.bel.cell (p := ⟨b2, o2 + k * 2, none⟩) (World.block_lt_of_cell? _ _ (G2.out k hlt).1)]; exact (G2.out k hlt).1
          have r1 : wr.cell? ⟨b2, o2 + k * 2 + 1, none⟩ = some (.int .u32 (fh k)) := by rw [p.bs.bel.cell (p := ⟨b2, o2 + k * 2 + 1, none⟩) (World.block_lt_of_cell? _ _ (G2.out k hlt).2.1)]; exact (G2.out k hlt).2.1
          have M := hide p
          clear p ph
          go_upto_region 14 with fail
          refine wp_gen fun W hW => ?_
          have gA : wr.grownBy W none := by rw [hW]; exact World.grownBy_alloc wr _ none
          have q0 : W.cell? ⟨wr.heap.size, 0, none⟩ = some (.int .u8 (fk k : Nat)) := by rw [hW, cell_new]; rfl
          have q1 : W.cell? ⟨wr.heap.size, 1, none⟩ = some (.int .u32 (fh k)) := by rw [hW, cell_new]; rfl
          have hbx : bV < wr.heap.size := M.out.aV.lt
          have bW := M.out.bs.grown gA (fun _ e => by cases e)
          have s1 := bW.st.f
          have MW := hide (And.intro bW (And.intro (show ∃ f, MapF W bT n1 f from let ⟨g, m⟩ := M.out.mT; ⟨g, m.grown0 gA⟩) (And.intro (M.out.mF.grown0 gA) (And.intro (M.out.mP.grown0 gA) (And.intro (M.out.aH.grown gA (by simp)) (M.out.aV.grown gA (by simp)))))))
          have U := hide M.out.u
          clear hW gA M r0 r1 bW
          generalize wr.heap.size = bx at q0 q1 hbx ⊢
          go_cut [83] from 77 to 85 (fun _ wy => Ph2b w X bT bF bP bH bV bx sq n1 k f (fk k) (fh k) wy)
          case first =>
            go_region_held (fun w' => w'.cell? ⟨X, 35, none⟩ = some (.map (some bF)) ∧ w'.cell? ⟨bx, 0, none⟩ = some (.int .u8 (fk k : Nat)) ∧ w'.cell? ⟨bx, 1, none⟩ = some (.int .u32 (fh k))) (go_keep) ((go_at_call 5; refine (key_any (fk k) hj _).mono ?_; rintro e w3 ⟨rfl, hg⟩; have b3 := MW.out.1.drew.grown hg (fun _ e => by cases e); have s3 := b3.st.f; have q3 : w3.cell? ⟨bx, 1, none⟩ = some (.int .u32 (fh k)) := hg.cell (w := W.drew) q1 (by simp); have q2 : w3.cell? ⟨bx, 0, none⟩ = some (.int .u8 (fk k : Nat)) := hg.cell (w := W.drew) q0 (by simp); obtain ⟨w4, hu, mF4, hg4, hs4⟩ := (MW.out.2.2.1.drew.grown0 hg).store Yba.underlying28 (by unfold maxLen; omega) hj (.int .u32 (fh k)); have M4 : Hid (Ph2b w X bT bF bP bH bV bx sq n1 k f (fk k) (fh k) w4) := ⟨b3.grown hg4 (fun i e => by cases e; exact ⟨OW.out.f, fun c => OW.out.dX (Or.inr (Or.inl c.symm))⟩), (let ⟨g, m⟩ := MW.out.2.1; ⟨g, (m.drew.grown0 hg).kept hg4 (by simp; exact OW.out.d1)⟩), mF4, (MW.out.2.2.2.1.drew.grown0 hg).kept hg4 (by simp; exact fun c => OW.out.d3 c.symm), (MW.out.2.2.2.2.1.drew.grown hg (by simp)).grown hg4 (by simp; omega), (MW.out.2.2.2.2.2.drew.grown hg (by simp)).grown hg4 (by simp; omega), U.out, hg4.cell q2 (by simp; omega), hg4.cell q3 (by simp; omega)⟩; have s4 := M4.out.bs.st.f; have q4 := M4.out.c0; have q5 := M4.out.c1; clear b3 hg mF4 hg4 hs4))
            all_goals
              go_wp2_with fail
              go_meet
              go_light
              exact M4.out
          case rest =>
            rename World => wy
            have PB := hide hcut
            have t0 := hcut.aH.1 (fk k) hj
            have t1 := hcut.aH.2 (fk k)
            have t2 := hcut.aV.1 (fk k) hj
            have t3 := hcut.aV.2 (fk k)
            have t4 := hcut.c0
            have t5 := hcut.c1
            have e1 : ¬ bH = bV := by omega
            have e2 : ¬ bH = bx := by omega
            have e3 : ¬ bV = bx := by omega
            clear hcut MW q0 q1 s1
            go_wp2_with fail
            go_roundg (n2 - (k + 1))
            case measure => go_light; omega
            case rel => go_light; exact ⟨k + 1, hlt, rfl, by go_num, _, PB.out.next hj lts hge hVH⟩
        · obtain rfl : n2 = k := by omega
          go_wp2
          go_meet
          go_light
          exact ⟨f, p⟩
    case rest =>
      rename World => wy
      obtain ⟨f, p2⟩ := hcut
      obtain ⟨Z1, z1, _, hz1⟩ := zero61
      obtain ⟨Z2, z2, _, hz2⟩ := zero66
      have hVy : bV < wy.heap.size := p2.aV.lt
      clear ph
      go_upto_block 4 with fail
      refine wp_gen fun W3 hW3 => ?_
      have gA : wy.grownBy W3 none := by rw [hW3]; exact (World.grownBy_alloc _ _ _).trans (World.grownBy_alloc _ _ _)
      have aI : Arr W3 wy.heap.size (fun _ => .bool false) := by
        rw [hW3]; exact (arr_new wy Z1 61 _ z1).fr ((Fr.refl (fun _ => False) _).alloc _) (fun h => h)
      have aQ : Arr W3 (wy.heap.size + 1) (fun _ => .pointer none) := by
        have := arr_new (wy.alloc (.cells Z1 61)) Z2 66 _ z2
        rw [hW3]; simpa using this
      have ph : Ph3 w X bT bF bP bH bV wy.heap.size (wy.heap.size + 1) sq n1 n2 0 f (fun _ => none) W3 :=
        ⟨p2.bs.grown gA (fun _ e => by cases e), let ⟨g, m⟩ := p2.mT; ⟨g, m.grown0 gA⟩, p2.mF.grown0 gA, p2.mP.grown0 gA, p2.aH.grown gA (by simp), p2.aV.grown gA (by simp), p2.u, aI, aQ, fun _ _ h => by cases h⟩
      have hQI : wy.heap.size < wy.heap.size + 1 := by omega
      clear hW3 gA p2 aI aQ hz1 hz2 z1 z2
      generalize wy.heap.size + 1 = bQ at ph hQI ⊢
      generalize wy.heap.size = bI at ph hVy hQI ⊢
      go_cut [21, 22, 97] from 98 to 123 (fun _ _ _ wz => ∃ p, Ph3 w X bT bF bP bH bV bI bQ sq n1 n2 n3 f p wz)
      case first =>
        go_wp2_with fail
        go_loopg [21, 22, 97] n3 (fun g _ _ i wr => ∃ k : Nat, k ≤ n3 ∧ g = n3 - k ∧ i = .int .i64 k ∧ ∃ p, Ph3 w X bT bF bP bH bV bI bQ sq n1 n2 k f p wr)
        case atStart => exact ⟨0, Nat.zero_le _, rfl, rfl, _, ph⟩
        case round =>
          obtain ⟨k, hk, rfl, rfl, p, pp⟩ := hrel
          by_cases hlt : k < n3
          · obtain rfl := h3 (by omega)
            have hz2 : (k : Int) < (n3 : Int) := by omega
            have gg := G3.out k hlt
            have hj := gg.2.2.2
            have hj2 : ((pk k : Nat) : Int) < 256 := by omega
            have r0 : wr.cell? ⟨b3, o3 + k * 3, none⟩ = some (.int .u8 (pk k : Nat)) := by rw [pp.bs.bel.cell (p := ⟨b3, o3 + k * 3, none⟩) (World.block_lt_of_cell? _ _ gg.1)]; exact gg.1
            have r1 : wr.cell? ⟨b3, o3 + k * 3 + 1, none⟩ = some (.bool (pn k)) := by rw [pp.bs.bel.cell (p := ⟨b3, o3 + k * 3 + 1, none⟩) (World.block_lt_of_cell? _ _ gg.2.1)]; exact gg.2.1
            have r2 : wr.cell? ⟨b3, o3 + k * 3 + 2, none⟩ = some (.int .u32 (ps k)) := by rw [pp.bs.bel.cell (p := ⟨b3, o3 + k * 3 + 2, none⟩) (World.block_lt_of_cell? _ _ gg.2.2.1)]; exact gg.2.2.1
            have M := hide pp
            clear pp ph gg
            go_upto_if 103 with fail
            refine wp_gen fun W hW => ?_
            have gA : wr.grownBy W none := by rw [hW]; exact World.grownBy_alloc wr _ none
            have q0 : W.cell? ⟨wr.heap.size, 0, none⟩ = some (.int .u8 (pk k : Nat)) := by rw [hW, cell_new]; rfl
            have q2 : W.cell? ⟨wr.heap.size, 2, none⟩ = some (.int .u32 (ps k)) := by rw [hW, cell_new]; rfl
            have hbx : bQ < wr.heap.size := M.out.aQ.lt
            have MW := hide (M.out.grown gA)
            clear hW gA M r0 r1 r2
            generalize wr.heap.size = bx at q0 q2 hbx ⊢
            go_cut [22] from 101 to 107 (fun s wz => ∃ q, s = .pointer q ∧ wz.cell? ⟨bx, 0, none⟩ = some (.int .u8 (pk k : Nat)) ∧ Ph3 w X bT bF bP bH bV bI bQ sq n1 n2 k f p wz)
            case first =>
              obtain ⟨L7, hL7⟩ := build71 (ps k)
              go_wp2_with fail
              all_goals
                go_meet
                go_light
                first
                  | exact ⟨none, rfl, q0, MW.out⟩
                  | exact ⟨_, rfl, (World.grownBy_alloc W _ none).cell q0 (by simp), MW.out.grown (World.grownBy_alloc W _ none)⟩
            case rest =>
              rename World => wz
              obtain ⟨q, rfl, c0, p3⟩ := hcut
              clear MW q0 q2
              have P3 := hide p3
              have s1 := p3.bs.st.p
              clear p3
              go_upto_region 26 with fail
              go_cut [114] from 108 to 115 (fun _ wv => Ph3b w X bT bF bP bH bV bI bQ bx sq n1 n2 k f p (pk k) q wv)
              case first =>
                go_region_held (fun w' => w'.cell? ⟨X, 111, none⟩ = some (.map (some bP)) ∧ w'.cell? ⟨bx, 0, none⟩ = some (.int .u8 (pk k : Nat))) (go_keep) ((go_at_call 5; refine (key_any (pk k) hj _).mono ?_; rintro e w3 ⟨rfl, hg⟩; have p3 := P3.out.drew.grown hg; have s3 := p3.bs.st.p; have q2 : w3.cell? ⟨bx, 0, none⟩ = some (.int .u8 (pk k : Nat)) := hg.cell (w := wz.drew) c0 (by simp); obtain ⟨w4, hu, mP4, hg4, hs4⟩ := p3.mP.store Yba.underlying29 (by unfold maxLen; omega) hj (.pointer q); have M4 : Hid (Ph3b w X bT bF bP bH bV bI bQ bx sq n1 n2 k f p (pk k) q w4) := ⟨p3.bs.grown hg4 (fun i e => by cases e; exact ⟨OW.out.p, fun c => OW.out.dX (Or.inr (Or.inr c.symm))⟩), (let ⟨g, m⟩ := p3.mT; ⟨g, m.kept hg4 (by simp; exact OW.out.d2)⟩), p3.mF.kept hg4 (by simp; exact OW.out.d3), mP4, p3.aH.grown hg4 (by simp; omega), p3.aV.grown hg4 (by simp; omega), p3.u, p3.aI.grown hg4 (by simp; omega), p3.aQ.grown hg4 (by simp; omega), p3.v, hg4.cell q2 (by simp; omega)⟩; have s4 := M4.out.bs.st.p; have q4 := M4.out.c0; clear p3 hg mP4 hg4 hs4))
                all_goals
                  go_wp2_with fail
                  go_meet
                  go_light
                  exact M4.out
              case rest =>
                rename World => wv
                have PB := hide hcut
                have t0 := hcut.aI.1 (pk k) hj
                have t1 := hcut.aI.2 (pk k)
                have t2 := hcut.aQ.1 (pk k) hj
                have t3 := hcut.aQ.2 (pk k)
                have t4 := hcut.c0
                have e1 : ¬ bI = bQ := by omega
                have e2 : ¬ bI = bx := by omega
                have e3 : ¬ bQ = bx := by omega
                clear hcut P3 s1 c0
                go_wp2_with fail
                go_roundg (n3 - (k + 1))
                case measure => go_light; omega
                case rel => go_light; exact ⟨k + 1, hlt, rfl, by go_num, _, PB.out.next hj lts hge hVH hVy hQI⟩
          · obtain rfl : n3 = k := by omega
            go_wp2
            go_meet
            go_light
            exact ⟨p, pp⟩
      case rest =>
        rename World => wz
        obtain ⟨p, p3⟩ := hcut
        obtain ⟨Z1, z1, _, hz1⟩ := zero61
        obtain ⟨Zk, zk, hmk⟩ := make32 n4 (by omega)
        have hQz : bQ < wz.heap.size := p3.aQ.lt
        clear ph
        go_upto_block 6 with fail
        refine wp_gen fun W4 hW4 => ?_
        have gA : wz.grownBy W4 none := by rw [hW4]; exact (World.grownBy_alloc _ _ _).trans (World.grownBy_alloc _ _ _)
        have th : W4.there wz.heap.size 0 (n4 * 32) := by
          have h0 : W4.heap[wz.heap.size]? = some (.cells Zk 40 (0, 0)) := by rw [hW4]; exact (two wz _ _).2.1
          exact there_block h0 0 (n4 * 32) (by omega)
        have aN : Arr W4 (wz.heap.size + 1) (fun _ => .bool false) := by
          have := arr_new (wz.alloc (.cells Zk 40)) Z1 61 _ z1
          rw [hW4]; simpa using this
        have hNK : wz.heap.size < wz.heap.size + 1 := by omega
        have ph : Ph4 w X bT bF bP bH bV bI bQ wz.heap.size (wz.heap.size + 1) sq n1 n2 n3 n4 0 f p tr W4 := ⟨p3.grown gA, fun i h => absurd h (by omega), th, aN⟩
        clear hW4 gA p3 th aN hz1 z1 zk hmk
        generalize wz.heap.size + 1 = bN at ph hNK ⊢
        generalize wz.heap.size = bK at ph hQz hNK ⊢
        go_cut [25, 26, 129] from 130 to 141 (fun _ _ _ wv => Ph4 w X bT bF bP bH bV bI bQ bK bN sq n1 n2 n3 n4 n4 f p tr wv)
        case first =>
          go_wp2_with fail
          go_loopg [25, 26, 129] n4 (fun g _ _ i wr => ∃ k : Nat, k ≤ n4 ∧ g = n4 - k ∧ i = .int .i64 k ∧ Ph4 w X bT bF bP bH bV bI bQ bK bN sq n1 n2 n3 n4 k f p tr wr)
          case atStart => exact ⟨0, Nat.zero_le _, rfl, rfl, ph⟩
          case round =>
            obtain ⟨k, hk, rfl, rfl, pp⟩ := hrel
            by_cases hlt : k < n4
            · obtain rfl := h4 (by omega)
              have hz2 : (k : Int) < (n4 : Int) := by omega
              have gg := G4.out k hlt
              have hj := gg.2
              have hj2 : ((tr k : Nat) : Int) < 256 := by omega
              have r0 : wr.cell? ⟨b4, o4 + k, none⟩ = some (.int .u8 (tr k : Nat)) := by rw [pp.p3.bs.bel.cell (p := ⟨b4, o4 + k, none⟩) (World.block_lt_of_cell? _ _ gg.1)]; exact gg.1
              have M := hide pp
              clear pp ph gg
              go_upto_region 36 with (go_at_call 5; refine (key_any (tr k) hj _).mono ?_; rintro e w3 ⟨rfl, hg⟩; have p3 := M.out.grown hg (by have := M.out.aN.lt; omega); have st3 := store_midV w3 bK (k * 32) (tr k) (p3.there_at hlt); have P3 := hide p3; clear p3 hg)
              refine wp_gen fun W5 hW5 => ?_
              have p5 := P3.out.put hlt hj ⟨lts.1, lts.2.1, lts.2.2.1, lts.2.2.2, hge⟩ hVH hVy hQI hQz hNK
              rw [← hW5] at p5
              have t0 := p5.2.1 (tr k) hj
              have t1 := p5.2.2 (tr k)
              have P5 := hide p5.1
              clear hW5 p5 st3 P3
              go_wp2_with fail
              go_roundg (n4 - (k + 1))
              case measure => go_light; omega
              case rel => go_light; exact ⟨k + 1, hlt, rfl, by go_num, P5.out⟩
            · obtain rfl : n4 = k := by omega
              go_wp2
              go_meet
              go_light
              exact pp
        case rest =>
          rename World => wv
          have P4 := hide hcut
          clear hcut ph
          obtain ⟨T0, hT0⟩ := P4.out.p3.mT
          have HT := hide hT0
          clear hT0
          have htr4 : Hid (∀ i, i < n4 → tr i < 256) := fun i hi => (G4.out i hi).2
          have hs4 : n4 ≤ 1048576 := by omega
          have hs2 : n2 ≤ 1048576 := by omega
          go_upto_if 150 with (first
            | (go_at_call 6; refine (clone_any bK n4 n4 tr _ hs4 (by exact P4.out.keys)).mono ?_; rintro e w6 ⟨hg6, ca, cc, cb, rfl, hca, hck⟩; have P6 := hide (P4.out.grown hg6 (by have := P4.out.aN.lt; omega)); have HT6 := hide (HT.out.grown0 hg6); have HC := hide hck; clear hg6 hck)
            | (go_at_call 7; refine (set_any X bT bF bP bK 0 n4 n4 n1 n2 n3 (some ⟨bK, 0, none⟩) sq tr T0 f p _ (fun _ => rfl) (by exact P6.out.keys) htr4.out (by exact P6.out.p3.bs.st) (by exact HT6.out) (by exact P6.out.p3.mF) (by exact P6.out.p3.mP) OW.out.dX (by unfold Sm; omega) OW.out.d1 OW.out.d2 OW.out.d3 hs4 hs2).mono ?_; rintro e w7 ⟨rfl, f7, mT7, mF7, mP7⟩; have P7 := hide (fin_of P6.out f7 mT7 mF7 mP7 ⟨lts.1, lts.2.1, lts.2.2.1, lts.2.2.2, hge⟩ hVH hVy hQI hQz hNK OW.out); have K7 := hide (show (∀ i, i < n4 → KeyAt w7 bK (0 + i * 32) (tr i)) ∧ ∀ i, i < n4 → KeyAt w7 cb (0 + i * 32) (tr i) from ⟨fun i hi => (P6.out.keys i hi).fr f7 (by unfold Sm; omega), fun i hi => (HC.out i hi).fr f7 (keyAt_ne (HC.out i hi) HT6.out P6.out.p3.mF P6.out.p3.mP)⟩); clear f7 mT7 mF7 mP7)
            | (go_at_call 8; refine (equal_any (some ⟨bK, 0, none⟩) ca n4 n4 cc bK 0 cb 0 tr _ hs4 htr4.out (fun _ => rfl) (by exact K7.out.1) hca (by exact K7.out.2)).mono ?_; rintro e w8 ⟨rfl, q8, hw8⟩; have P8 := hide (P7.out.drewN q8); rw [← hw8] at P8; clear hw8)
            | fail)
          clear P4 HT htr4
          have s1 := P8.out.bs.st.s
          go_upto_block 8 with fail
          clear s1 P6 HT6 HC P7 K7 hca lts hge hVH hVy hQI hQz hNK
          go_wp2_with fail
          go_loopg [28, 29, 30, 31] 256 (fun g x y z i wr => ∃ k : Nat, k ≤ 256 ∧ g = 256 - k ∧ i = .int .i64 k ∧ x = .int .i64 (cntTo (inTo tr n4) k : Nat) ∧ y = .int .i64 (cntTo (inTo tr n4) k : Nat) ∧ z = .int .i64 (cntTo (fun j => (filt tr n4 p j).isSome) k : Nat) ∧ Fin w X bT bF bP bH bV bI bQ bN sq n4 f p tr wr)
          case atStart => exact ⟨0, Nat.zero_le _, rfl, rfl, rfl, rfl, rfl, P8.out⟩
          case round =>
            obtain ⟨k, hk, rfl, rfl, rfl, rfl, rfl, fin⟩ := hrel
            have hc1 := cntTo_le (inTo tr n4) k
            have hc3 := cntTo_le (fun j => (filt tr n4 p j).isSome) k
            by_cases hlt : k < 256
            · have hz2 : (k : Int) < 256 := by omega
              have MF := hide fin
              clear fin P8
              go_upto_region 50 with (go_at_call 5; refine (key_any k hlt _).mono ?_; rintro e w3 ⟨rfl, hg⟩; have sz := store_zero w3 k; have F3 := hide (MF.out.grown hg); clear hg)
              refine wp_gen fun W hW => ?_
              have gA : w3.grownBy W none := by rw [hW]; exact World.grownBy_alloc w3 _ none
              have fW := F3.out.grown gA
              have kW : KeyAt W w3.heap.size 0 k := by rw [hW]; exact keyAt_block (heap_alloc_last _ _)
              have kb1 := KeyAt.loadV (w := W.drew) kW
              have kb2 := KeyAt.loadV (w := W.drew.drew) kW
              have kb3 := KeyAt.loadV (w := W.drew.drew.drew) kW
              clear hW gA kW MF F3 sz
              generalize w3.heap.size = bx at kb1 kb2 kb3 ⊢
              obtain ⟨mt, mT⟩ := fW.mT
              obtain ⟨mf, mF⟩ := fW.mF
              obtain ⟨mp, mP⟩ := fW.mP
              have lkT := mT.drew.look Yba.underlying27 (z := .bool false) rfl hlt
              have lkF := mF.drew.drew.look_ok Yba.underlying28 (z := .int .u32 0) rfl hlt
              have lkP := mP.drew.drew.drew.look_ok Yba.underlying29 (z := .pointer none) rfl hlt
              have tN := fW.aN.1 k hlt
              have tH := fW.aH.1 k hlt
              have tV := fW.aV.1 k hlt
              have tI := fW.aI.1 k hlt
              have tQ := fW.aQ.1 k hlt
              have sT := fW.bs.st.t
              have sF := fW.bs.st.f
              have sP := fW.bs.st.p
              have hu := fW.u k
              have hv := fW.v k
              have FW := hide fW
              have hi1 : ((cntTo (inTo tr n4) k : Nat) : Int) ≤ 256 := by omega
              have hi3 : ((cntTo (fun j => (filt tr n4 p j).isSome) k : Nat) : Int) ≤ 256 := by omega
              have E1 : Hid (cntTo (inTo tr n4) (k + 1) = cntTo (inTo tr n4) k + (if inTo tr n4 k then 1 else 0)) := rfl
              have E3 : Hid (cntTo (fun j => (filt tr n4 p j).isSome) (k + 1) = cntTo (fun j => (filt tr n4 p j).isSome) k + (if (filt tr n4 p k).isSome then 1 else 0)) := rfl
              have nq := neq_ptr
              clear fW mT mF mP hc1 hc3
              generalize cntTo (inTo tr n4) k = cn at hi1 E1 ⊢
              generalize cntTo (fun j => (filt tr n4 p j).isSome) k = cp at hi3 E3 ⊢
              have hu' : f k = none ∨ ∃ x, f k = some (.int .u32 x) := by
                cases hf : f k with
                | none => exact .inl rfl
                | some v => obtain ⟨x, rfl⟩ := hu v hf; exact .inr ⟨x, rfl⟩
              have hv' : p k = none ∨ ∃ q, p k = some (.pointer q) := by
                cases hp : p k with
                | none => exact .inl rfl
                | some v => obtain ⟨q, rfl⟩ := hv v hp; exact .inr ⟨q, rfl⟩
              clear hu hv
              rcases hu' with hf | ⟨x, hf⟩ <;> rcases hv' with hp | ⟨q, hp⟩ <;> cases hN : inTo tr n4 k
              all_goals
                simp [setTo, fromAll, filt, hN, hf, hp, seqNext] at lkT lkF lkP tN tH tV tI tQ
                go_upto_region 53 with fail
                go_region
                go_upto_region 55 with fail
                go_region
                go_upto_region 64 with fail
                go_region
                go_wp2_with fail
                go_roundg (256 - (k + 1))
                case measure => go_light; omega
                case rel => go_light; exact ⟨k + 1, hlt, rfl, by go_num, by rw [E1.out]; simp [hN], by rw [E1.out]; simp [hN], by rw [E3.out]; simp [filt, hN, hp], FW.out.drew.drew.drew⟩
            · obtain rfl : k = 256 := by omega
              obtain ⟨mt, mT⟩ := fin.mT
              obtain ⟨mf, mF⟩ := fin.mF
              obtain ⟨mp, mP⟩ := fin.mP
              have lT := mT.len Yba.underlying27
              have lF := mF.len Yba.underlying28
              have lP := mP.len Yba.underlying29
              rw [show cntTo (fun j => (setTo tr n4 j).isSome) 256 = cntTo (inTo tr n4) 256 from cntTo_congr 256 (fun i _ => by cases h : inTo tr n4 i <;> simp [setTo, h])] at lT
              rw [show cntTo (fun j => (fromAll tr n4 f (seqNext sq) j).isSome) 256 = cntTo (inTo tr n4) 256 from cntTo_congr 256 (fun i _ => by cases h : inTo tr n4 i <;> simp [fromAll, h])] at lF
              have sT := fin.bs.st.t
              have sF := fin.bs.st.f
              have sP := fin.bs.st.p
              have FW := hide fin
              clear fin mT mF mP P8 hc1 hc3
              generalize cntTo (inTo tr n4) 256 = cn at lT lF ⊢
              generalize cntTo (fun j => (filt tr n4 p j).isSome) 256 = cp at lP ⊢
              go_wp2
              go_ret
              exact ⟨rfl, FW.out.bs.bel⟩
end Go.Proofs.Ybulkdhki
