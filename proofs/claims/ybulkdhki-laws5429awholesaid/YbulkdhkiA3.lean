/-
  holdfast.LawS5429AWhole: (*Validator).SetTrust (7).
-/
import Derived.Test.YbulkdhkiA2
namespace Go.Proofs.Ybulkdhki
open Go.RowKit

/-- All blocks of w but those of S stand in w'. -/
structure Fr (S : Nat → Prop) (w w' : World) : Prop where
  os : w'.os = w.os
  tape : w'.tape = w.tape
  output : w'.output = w.output
  size : w.heap.size ≤ w'.heap.size
  block : ∀ k, k < w.heap.size → ¬ S k → w'.heap[k]? = w.heap[k]?
namespace Fr
variable {S : Nat → Prop} {a w w' : World}
theorem refl (S : Nat → Prop) (w : World) : Fr S w w := ⟨rfl, rfl, rfl, Nat.le_refl _, fun _ _ _ => rfl⟩
theorem trans {b c : World} (h : Fr S a b) (k : Fr S b c) : Fr S a c :=
  ⟨k.os.trans h.os, k.tape.trans h.tape, k.output.trans h.output, Nat.le_trans h.size k.size, fun i hi hs => (k.block i (Nat.lt_of_lt_of_le hi h.size) hs).trans (h.block i hi hs)⟩
theorem grown {row : Option Nat} (h : Fr S a w) (hg : w.grownBy w' row) (hr : ∀ k, row = some k → S k ∨ a.heap.size ≤ k) : Fr S a w' :=
  ⟨hg.os.trans h.os, hg.tape.trans h.tape, hg.output.trans h.output, Nat.le_trans h.size hg.size, fun k hk hs => (hg.block k (Nat.lt_of_lt_of_le hk h.size) (fun e => by
    rcases hr k e.symm with h1 | h1
    · exact hs h1
    · omega)).trans (h.block k hk hs)⟩
theorem alloc (h : Fr S a w) (o : Obj) : Fr S a (w.alloc o) := h.grown (World.grownBy_alloc w o none) (fun _ e => by cases e)
theorem drew (h : Fr S a w) : Fr S a w.drew := ⟨h.os, h.tape, h.output, h.size, h.block⟩
theorem mono {S' : Nat → Prop} (h : Fr S w w') (hs : ∀ k, S k → S' k) : Fr S' w w' := ⟨h.os, h.tape, h.output, h.size, fun k hk hn => h.block k hk (fun e => hn (hs k e))⟩
theorem cell (h : Fr S w w') {p : Addr} {v : Value} (hp : w.cell? p = some v) (hs : ¬ S p.block) : w'.cell? p = some v := by
  rw [World.cell?_of_block (w := w) (h.block p.block (World.block_lt_of_cell? _ _ hp) hs)]; exact hp
end Fr

theorem KeyAt.loadV {w : World} {b o j : Nat} (h : KeyAt w b o j) : (loadVar 40 ⟨b, o, none⟩).run Yba.prog w = .ok (keyVal j) w := by
  simpa [Instr.loadAt, Instr.sureAddr] using h.load
theorem KeyAt.lt {w : World} {b o j : Nat} (h : KeyAt w b o j) : b < w.heap.size := World.block_lt_of_cell? _ _ (h 0 (.int .u8 j) rfl)
theorem KeyAt.fr {S : Nat → Prop} {w w' : World} {b o j : Nat} (h : KeyAt w b o j) (hf : Fr S w w') (hs : ¬ S b) : KeyAt w' b o j := h.kept (hf.block b h.lt hs)

/-- The Validator in block X: its three maps and closed.Seq. -/
structure St (X bT bF bP : Nat) (sq : Int) (w : World) : Prop where
  t : w.cell? ⟨X, 34, none⟩ = some (.map (some bT))
  f : w.cell? ⟨X, 35, none⟩ = some (.map (some bF))
  s : w.cell? ⟨X, 36, none⟩ = some (.int .u32 sq)
  p : w.cell? ⟨X, 111, none⟩ = some (.map (some bP))
theorem St.fr {X bT bF bP : Nat} {sq : Int} {S : Nat → Prop} {w w' : World} (h : St X bT bF bP sq w) (hf : Fr S w w') (hs : ¬ S X) : St X bT bF bP sq w' :=
  ⟨hf.cell h.t hs, hf.cell h.f hs, hf.cell h.s hs, hf.cell h.p hs⟩

def inTo (tr : Nat → Nat) : Nat → Nat → Bool
  | 0, _ => false
  | k + 1, j => (tr k == j) || inTo tr k j
def setTo (tr : Nat → Nat) (k j : Nat) : Option Value := if inTo tr k j = true then some (.bool true) else none
theorem setTo_succ (tr : Nat → Nat) (k : Nat) : upd (setTo tr k) (tr k) (some (.bool true)) = setTo tr (k + 1) := by
  funext j
  by_cases e : j = tr k
  · simp [upd, setTo, inTo, e]
  · have : (tr k == j) = false := by simp; exact fun h => e h.symm
    simp [upd, setTo, inTo, e, this]

theorem store_zero (w : World) (j : Nat) : (storeVar 40 ⟨w.heap.size, 0, none⟩ (keyVal j)).run Yba.prog (w.alloc (.cells #[.int .u8 0, .int .u8 0, .int .u8 0, .int .u8 0, .int .u8 0, .int .u8 0, .int .u8 0, .int .u8 0, .int .u8 0, .int .u8 0, .int .u8 0, .int .u8 0, .int .u8 0, .int .u8 0, .int .u8 0, .int .u8 0, .int .u8 0, .int .u8 0, .int .u8 0, .int .u8 0, .int .u8 0, .int .u8 0, .int .u8 0, .int .u8 0, .int .u8 0, .int .u8 0, .int .u8 0, .int .u8 0, .int .u8 0, .int .u8 0, .int .u8 0, .int .u8 0] 40)) = .ok () (w.alloc (.cells (keyCells j) 40)) := by
  simpa [Instr.storeAt, Instr.sureAddr] using store_new w _ rfl j

theorem MapF.drew {w : World} {b n : Nat} {f : Nat → Option Value} (h : MapF w b n f) : MapF w.drew b n f := let ⟨D, h1, h2⟩ := h; ⟨D, h1.drew, h2⟩

/-! ### keys are loaded and stored whole: the walk does not open them -/
attribute [-go_sem] loadVar storeVar
@[go_sem] theorem loadVar_plain (t : TypeId) (a : Addr) (w : World) (h : (isAgg t).run Yba.prog w = .ok false w) : (loadVar t a).run Yba.prog w = (load a).run Yba.prog w := by
  simp [loadVar, h]
@[go_sem] theorem storeVar_plain (t : TypeId) (a : Addr) (v : Value) (w : World) (h1 : (sizeOf t).run Yba.prog w = .ok 1 w) (hv : v.cells = #[v]) :
    (storeVar t a v).run Yba.prog w = (store (a.add 0) v).run Yba.prog w := by
  simp [storeVar, h1, hv, storeCells]

/-- What is kept of a map: the entries of the keys on the list. -/
def filt (tr : Nat → Nat) (n : Nat) (F : Nat → Option Value) (j : Nat) : Option Value := if inTo tr n j = true then F j else none
/-- .. while the loop is under way. -/
def part1 (tr : Nat → Nat) (n : Nat) (F : Nat → Option Value) (lf : Nat → Bool) (j : Nat) : Option Value := if lf j = true then F j else filt tr n F j
theorem part1_start (tr : Nat → Nat) (n : Nat) (F : Nat → Option Value) : part1 tr n F (fun j => (F j).isSome) = F := by
  funext j
  cases h : F j <;> simp [part1, filt, h]
theorem part1_keep (tr : Nat → Nat) (n : Nat) (F : Nat → Option Value) (lf : Nat → Bool) {j : Nat} (hl : lf j = true) (hi : inTo tr n j = true) : part1 tr n F lf = part1 tr n F (upd lf j false) := by
  funext i
  by_cases e : i = j
  · subst e; simp [part1, filt, upd, hl, hi]
  · simp [part1, upd, e]
theorem part1_drop (tr : Nat → Nat) (n : Nat) (F : Nat → Option Value) (lf : Nat → Bool) {j : Nat} (hi : inTo tr n j = false) : upd (part1 tr n F lf) j none = part1 tr n F (upd lf j false) := by
  funext i
  by_cases e : i = j
  · subst e; simp [part1, filt, upd, hi]
  · simp [part1, upd, e]
theorem upd_twice {α : Type} (f : Nat → α) (j : Nat) (x y : α) : upd (upd f j x) j y = upd f j y := by
  funext i; by_cases e : i = j <;> simp [upd, e]

/-- closed.Seq + 1 -/
def seqNext (sq : Int) : Value := .int .u32 ((sq + 1) % 4294967296)
/-- trustedFrom behind the call. -/
def fromAll (tr : Nat → Nat) (n : Nat) (F : Nat → Option Value) (s : Value) (j : Nat) : Option Value := if inTo tr n j = true then some ((F j).getD s) else none
def part3 (tr : Nat → Nat) (n : Nat) (F : Nat → Option Value) (s : Value) (lf : Nat → Bool) (j : Nat) : Option Value := if inTo tr n j = true ∧ lf j = false then some ((F j).getD s) else F j
theorem part3_start (tr : Nat → Nat) (n : Nat) (F : Nat → Option Value) (s : Value) : part3 tr n F s (fun j => (setTo tr n j).isSome) = F := by
  funext j
  cases h : inTo tr n j <;> simp [part3, setTo, h]
theorem part3_keep (tr : Nat → Nat) (n : Nat) (F : Nat → Option Value) (s : Value) (lf : Nat → Bool) {j : Nat} {v : Value} (hv : F j = some v) : part3 tr n F s lf = part3 tr n F s (upd lf j false) := by
  funext i
  by_cases e : i = j
  · subst e; simp [part3, upd, hv]
  · simp [part3, upd, e]
theorem part3_put (tr : Nat → Nat) (n : Nat) (F : Nat → Option Value) (s : Value) (lf : Nat → Bool) {j : Nat} (hi : inTo tr n j = true) (hv : F j = none) : upd (part3 tr n F s lf) j (some s) = part3 tr n F s (upd lf j false) := by
  funext i
  by_cases e : i = j
  · subst e; simp [part3, upd, hi, hv]
  · simp [part3, upd, e]

def Sm (bT bF bP k : Nat) : Prop := k = bT ∨ k = bF ∨ k = bP

set_option maxRecDepth 100000 in
set_option maxHeartbeats 1600000 in
theorem set_any (X bT bF bP tb tq n c nT nF nP : Nat) (a : Option Addr) (sq : Int) (tr : Nat → Nat) (T F Pm : Nat → Option Value) (w : World)
    (h0 : 0 < n → a = some ⟨tb, tq, none⟩) (hk : ∀ i, i < n → KeyAt w tb (tq + i * 32) (tr i)) (htr : ∀ i, i < n → tr i < 256) (st : St X bT bF bP sq w)
    (mT : MapF w bT nT T) (mF : MapF w bF nF F) (mP : MapF w bP nP Pm) (dX : ¬ Sm bT bF bP X) (dt : ¬ Sm bT bF bP tb) (d1 : bT ≠ bF) (d2 : bT ≠ bP) (d3 : bF ≠ bP) (hn : n ≤ 1048576) (hnF : nF ≤ 1048576) :
    Calls Yba.prog 7 #[.pointer (some ⟨X, 0, none⟩), .slice a n c] w fun e w' => e = .returned (.tuple #[]) ∧ Fr (Sm bT bF bP) w w' ∧ MapF w' bT n (setTo tr n) ∧ (∃ m, MapF w' bF m (fromAll tr n F (seqNext sq))) ∧ MapF w' bP nP (filt tr n Pm) := by
  obtain ⟨wc, hcl, mT0, hg0⟩ := mT.clear Yba.underlying27 0
  have s1 := st.t
  have ltT := mT.lt
  have ltF := mF.lt
  have ltP := mP.lt
  have hz : (n : Int) ≤ 1048576 := by omega
  have f0 : Fr (Sm bT bF bP) w wc := (Fr.refl _ w).grown hg0 (fun k e => .inl (.inl (by cases e; rfl)))
  have mF0 : MapF wc bF nF F := mF.kept hg0 (by simp; exact fun e => d1 e.symm)
  have mP0 : MapF wc bP nP Pm := mP.kept hg0 (by simp; exact fun e => d2 e.symm)
  have HK := hide hk
  have ST := hide st
  clear hk st mT mF mP hg0
  go_enter Yba.func7, Yba.ntmps7
  go_upto_block 0 with fail
  clear hcl s1
  go_cut [5, 17] from 18 to 26 (fun _ _ wx => MapF wx bT n (setTo tr n) ∧ MapF wx bF nF F ∧ MapF wx bP nP Pm ∧ Fr (Sm bT bF bP) w wx)
  case first =>
    go_wp2_with fail
    go_loopg [5, 17] n (fun g _ i wr => ∃ k : Nat, k ≤ n ∧ g = n - k ∧ i = .int .i64 k ∧ MapF wr bT k (setTo tr k) ∧ MapF wr bF nF F ∧ MapF wr bP nP Pm ∧ Fr (Sm bT bF bP) w wr)
    case atStart => exact ⟨0, Nat.zero_le _, rfl, rfl, mT0, mF0, mP0, f0⟩
    case round =>
      obtain ⟨k, hk, rfl, rfl, mT1, mF1, mP1, f1⟩ := hrel
      by_cases hlt : k < n
      · obtain rfl := h0 (by omega)
        have hz2 : (k : Int) < (n : Int) := by omega
        have ka := ((HK.out k hlt).fr f1 dt).loadV
        have sz := store_zero wr (tr k)
        have M := hide (And.intro mT1 (And.intro mF1 (And.intro mP1 f1)))
        clear mT1 mF1 mP1 f1 mT0 mF0 mP0 f0
        go_upto_region 4 with fail
        refine wp_gen fun W hW => ?_
        have gA : wr.grownBy W none := by rw [hW]; exact World.grownBy_alloc wr _ none
        have fW : Fr (Sm bT bF bP) w W := M.out.2.2.2.grown gA (fun _ e => by cases e)
        have stW := ST.out.fr fW dX
        have s1 := stW.t
        have kW : KeyAt W wr.heap.size 0 (tr k) := by rw [hW]; exact keyAt_block (heap_alloc_last _ _)
        have kb : (loadVar 40 ⟨wr.heap.size, 0, none⟩).run Yba.prog W.drew = .ok (keyVal (tr k)) W.drew := KeyAt.loadV (w := W.drew) kW
        obtain ⟨w2, hu, mT2, hg2, hs2⟩ := (M.out.1.kept gA (by simp)).drew.store Yba.underlying27 (by unfold maxLen; omega) (htr k hlt) (.bool true)
        rw [setTo_succ] at mT2
        have mF2 : MapF w2 bF nF F := (M.out.2.1.kept gA (by simp)).drew.kept hg2 (by simp; exact fun e => d1 e.symm)
        have mP2 : MapF w2 bP nP Pm := (M.out.2.2.1.kept gA (by simp)).drew.kept hg2 (by simp; exact fun e => d2 e.symm)
        have f2 : Fr (Sm bT bF bP) w w2 := fW.drew.grown hg2 (fun j e => .inl (.inl (by cases e; rfl)))
        have M2 := hide (And.intro mT2 (And.intro mF2 (And.intro mP2 f2)))
        clear hW gA fW stW kW M ka sz mT2 mF2 mP2 f2 hg2 hs2
        go_region
        go_wp2_with fail
        go_roundg (n - (k + 1))
        case measure => go_light; omega
        case rel => go_light; exact ⟨k + 1, hlt, rfl, by go_num, M2.out⟩
      · obtain rfl : n = k := by omega
        go_wp2
        go_meet
        go_light
        exact ⟨mT1, mF1, mP1, f1⟩
  case rest =>
    rename World => wx
    obtain ⟨mT1, mF1, mP1, f1⟩ := hcut
    have s2 := (ST.out.fr f1 dX).f
    obtain ⟨wi, g0, hrg, rF, gi, si, _⟩ := mF1.range Yba.underlying28
    have f2 : Fr (Sm bT bF bP) w wi := f1.grown gi (fun _ e => by cases e)
    have mT2 := mT1.kept gi (by simp)
    have mP2 := mP1.kept gi (by simp)
    have hxs : w.heap.size ≤ wx.heap.size := f1.size
    clear mT1 mF1 mP1 f1 gi mT0 mF0 mP0 f0
    go_upto_block 2 with fail
    clear hrg s2
    go_cut [6] from 32 to 47 (fun _ wy => MapF wy bT n (setTo tr n) ∧ MapF wy bF nF (filt tr n F) ∧ MapF wy bP nP Pm ∧ Fr (Sm bT bF bP) w wy)
    case first =>
      go_wp2_with fail
      go_loopg [6] g0 (fun g _ wr => ∃ lf, RangeF wr bF wx.heap.size nF (part1 tr n F lf) lf g ∧ MapF wr bT n (setTo tr n) ∧ MapF wr bP nP Pm ∧ Fr (Sm bT bF bP) w wr)
      case atStart => exact ⟨fun j => (F j).isSome, by rw [part1_start]; exact rF, mT2, mP2, f2⟩
      case round =>
        obtain ⟨lf, rg, mT3, mP3, f3⟩ := hrel
        rcases rg.next 0 with ⟨hg, hl, hr⟩ | ⟨j, v, w4, g4, hj, hlj, hfj, hr, rg4, hlt, gr4, sz4, hen⟩
        · go_wp2_with fail
          go_meet
          go_light
          exact ⟨mT3, rg.owns.congr (fun i hi => by simp [part1, hl i hi]), mP3, f3⟩
        · have sz := store_zero w4 j
          have rne := rg.ne
          have hrb : w.heap.size ≤ wx.heap.size := hxs
          have mT4 : MapF w4 bT n (setTo tr n) := mT3.kept gr4 (by simp; omega)
          have mP4 : MapF w4 bP nP Pm := mP3.kept gr4 (by simp; omega)
          have f4 : Fr (Sm bT bF bP) w w4 := f3.grown gr4 (fun i e => .inr (by cases e; exact hrb))
          have M := hide (And.intro rg4 (And.intro mT4 (And.intro mP4 f4)))
          clear mT4 mP4 f4 rg4 mT3 mP3 f3 rg sz4
          go_upto_region 9 with fail
          refine wp_gen fun W hW => ?_
          have gA : w4.grownBy W none := by rw [hW]; exact World.grownBy_alloc w4 _ none
          have fW : Fr (Sm bT bF bP) w W := M.out.2.2.2.grown gA (fun _ e => by cases e)
          have stW := ST.out.fr fW dX
          have s1 := stW.t
          have kW : KeyAt W w4.heap.size 0 j := by rw [hW]; exact keyAt_block (heap_alloc_last _ _)
          have kb := KeyAt.loadV (w := W.drew) kW
          have mTW := M.out.2.1.kept gA (by simp)
          have mPW := M.out.2.2.1.kept gA (by simp)
          have rW := M.out.1.kept gA (by simp) (by simp)
          have lk := mTW.drew.look Yba.underlying27 (z := .bool false) rfl hj
          have M2 := hide (And.intro rW (And.intro mTW (And.intro mPW (And.intro fW (And.intro stW kW)))))
          clear hW gA fW stW kW M sz mTW mPW rW hr hen gr4
          by_cases hi : inTo tr n j = true
          · simp only [setTo, hi, if_true, Option.getD_some] at lk
            go_region
            go_wp2_with fail
            go_roundg g4
            case measure => exact hlt
            case rel => exact ⟨upd lf j false, by rw [← part1_keep tr n F lf hlj hi]; exact M2.out.1, M2.out.2.1, M2.out.2.2.1, M2.out.2.2.2.1.drew⟩
          · have hi : inTo tr n j = false := by simpa using hi
            simp only [setTo, hi, if_false, Bool.false_eq_true, Option.getD_none] at lk
            go_region
            go_upto_region 10 with fail
            have s2 := M2.out.2.2.2.2.1.f
            have kb2 := KeyAt.loadV (w := W.drew.drew) M2.out.2.2.2.2.2
            obtain ⟨w5, g5, hd, r5, hle, gr5, _⟩ := RangeF.drop (w := W.drew.drew) M2.out.1 Yba.underlying28 hj 0
            rw [part1_drop tr n F lf hi, upd_twice] at r5
            have mT5 : MapF w5 bT n (setTo tr n) := MapF.kept (w := W.drew.drew) M2.out.2.1 gr5 (by simp; exact d1)
            have mP5 : MapF w5 bP nP Pm := MapF.kept (w := W.drew.drew) M2.out.2.2.1 gr5 (by simp; exact fun e => d3 e.symm)
            have f5 : Fr (Sm bT bF bP) w w5 := M2.out.2.2.2.1.drew.drew.grown gr5 (fun i e => .inl (.inr (.inl (by cases e; rfl))))
            have M5 := hide (And.intro r5 (And.intro mT5 (And.intro mP5 f5)))
            clear r5 mT5 mP5 f5 gr5 M2 kb lk s1
            go_region
            go_wp2_with fail
            go_roundg g5
            case measure => go_light; omega
            case rel => exact ⟨_, M5.out⟩
    case rest =>
      rename World => wy
      obtain ⟨mT1, mF1, mP1, f1⟩ := hcut
      have s2 := (ST.out.fr f1 dX).t
      obtain ⟨wj, g1, hrg, rT, gi, _, hg1⟩ := mT1.range Yba.underlying27
      have f3 : Fr (Sm bT bF bP) w wj := f1.grown gi (fun _ e => by cases e)
      have mF2 := mF1.kept gi (by simp)
      have mP3 := mP1.kept gi (by simp)
      have hys : w.heap.size ≤ wy.heap.size := f1.size
      clear mT1 mF1 mP1 f1 gi rF mT2 mP2 f2
      go_upto_block 4 with fail
      clear hrg s2
      go_cut [7, 8, 9] from 53 to 78 (fun _ _ _ wz => MapF wz bT n (setTo tr n) ∧ (∃ m, MapF wz bF m (fromAll tr n F (seqNext sq))) ∧ MapF wz bP nP Pm ∧ Fr (Sm bT bF bP) w wz)
      case first =>
        go_wp2_with fail
        go_loopg [7, 8, 9] g1 (fun g _ _ _ wr => ∃ lf m, m + g ≤ nF + g1 ∧ RangeF wr bT wy.heap.size n (setTo tr n) lf g ∧ MapF wr bF m (part3 tr n (filt tr n F) (seqNext sq) lf) ∧ MapF wr bP nP Pm ∧ Fr (Sm bT bF bP) w wr)
        case atStart => exact ⟨_, nF, Nat.le_refl _, rT, by rw [part3_start]; exact mF2, mP3, f3⟩
        case round =>
          obtain ⟨lf, m, hm, rg, mF3, mP4, f4⟩ := hrel
          rcases rg.next 0 with ⟨hg, hl, hr⟩ | ⟨j, v, w4, g4, hj, hlj, hfj, hr, rg4, hlt, gr4, sz4, hen⟩
          · go_wp2_with fail
            go_meet
            go_light
            exact ⟨rg.owns, ⟨m, mF3.congr (fun i hi => by cases hc : inTo tr n i <;> simp [part3, fromAll, filt, hl i hi, hc])⟩, mP4, f4⟩
          · have hin : inTo tr n j = true := by
              cases h : inTo tr n j
              · simp [setTo, h] at hfj
              · rfl
            have sz := store_zero w4 j
            have mF4 : MapF w4 bF m (part3 tr n (filt tr n F) (seqNext sq) lf) := mF3.kept gr4 (by simp; omega)
            have mP5 : MapF w4 bP nP Pm := mP4.kept gr4 (by simp; omega)
            have f5 : Fr (Sm bT bF bP) w w4 := f4.grown gr4 (fun i e => .inr (by cases e; exact hys))
            have M := hide (And.intro rg4 (And.intro mF4 (And.intro mP5 f5)))
            clear mF4 mP5 f5 rg4 mF3 mP4 f4 rg sz4
            go_upto_region 14 with fail
            refine wp_gen fun W hW => ?_
            have gA : w4.grownBy W none := by rw [hW]; exact World.grownBy_alloc w4 _ none
            have fW : Fr (Sm bT bF bP) w W := M.out.2.2.2.grown gA (fun _ e => by cases e)
            have stW := ST.out.fr fW dX
            have s1 := stW.f
            have kW : KeyAt W w4.heap.size 0 j := by rw [hW]; exact keyAt_block (heap_alloc_last _ _)
            have kb := KeyAt.loadV (w := W.drew) kW
            have mFW := M.out.2.1.kept gA (by simp)
            have mPW := M.out.2.2.1.kept gA (by simp)
            have rW := M.out.1.kept gA (by simp) (by simp)
            have lk := mFW.drew.look_ok Yba.underlying28 (z := .int .u32 0) rfl hj
            have M2 := hide (And.intro rW (And.intro mFW (And.intro mPW (And.intro fW (And.intro stW kW)))))
            clear hW gA fW stW kW M sz mFW mPW rW hr hen gr4
            have hp3 : part3 tr n (filt tr n F) (seqNext sq) lf j = F j := by simp [part3, filt, hlj, hin]
            rw [hp3] at lk
            cases hF : F j with
            | some u =>
              simp only [hF, Option.getD_some, Option.isSome_some] at lk
              go_region
              go_wp2_with fail
              go_roundg g4
              case measure => exact hlt
              case rel => exact ⟨upd lf j false, m, by omega, M2.out.1, by rw [← part3_keep tr n (filt tr n F) (seqNext sq) lf (v := u) (by simp [filt, hin, hF])]; exact M2.out.2.1, M2.out.2.2.1, M2.out.2.2.2.1.drew⟩
            | none =>
              simp only [hF, Option.getD_none, Option.isSome_none] at lk
              go_region
              go_upto_region 16 with fail
              have s2 := M2.out.2.2.2.2.1.s
              have s3 := M2.out.2.2.2.2.1.f
              have kb2 := KeyAt.loadV (w := W.drew.drew) M2.out.2.2.2.2.2
              obtain ⟨w5, hu, mF5, gr5, _⟩ := MapF.store (w := W.drew.drew) M2.out.2.1 Yba.underlying28 (by unfold maxLen; omega) hj (.int .u32 ((sq + 1) % 4294967296))
              have e5 : upd (part3 tr n (filt tr n F) (seqNext sq) lf) j (some (.int .u32 ((sq + 1) % 4294967296))) = part3 tr n (filt tr n F) (seqNext sq) (upd lf j false) := part3_put tr n (filt tr n F) (seqNext sq) lf hin (by simp [filt, hin, hF])
              rw [e5] at mF5
              have r5 : RangeF w5 bT wy.heap.size n (setTo tr n) (upd lf j false) g4 := RangeF.kept (w := W.drew.drew) M2.out.1 gr5 (by simp; exact d1) (by simp; omega)
              have mP6 : MapF w5 bP nP Pm := MapF.kept (w := W.drew.drew) M2.out.2.2.1 gr5 (by simp; exact fun e => d3 e.symm)
              have f6 : Fr (Sm bT bF bP) w w5 := M2.out.2.2.2.1.drew.drew.grown gr5 (fun i e => .inl (.inr (.inl (by cases e; rfl))))
              have M5 := hide (And.intro r5 (And.intro mF5 (And.intro mP6 f6)))
              clear r5 mF5 mP6 f6 gr5 M2 kb lk s1 e5
              go_region
              go_wp2_with fail
              go_roundg g4
              case measure => exact hlt
              case rel => exact ⟨_, m + 1, by omega, M5.out⟩
      case rest =>
        rename World => wz
        obtain ⟨mT1, mF1, mP1, f1⟩ := hcut
        have s2 := (ST.out.fr f1 dX).p
        obtain ⟨wk, g2, hrg, rP, gi, _, _⟩ := mP1.range Yba.underlying29
        have f4 : Fr (Sm bT bF bP) w wk := f1.grown gi (fun _ e => by cases e)
        have mT2 := mT1.kept gi (by simp)
        have mF3 : ∃ m, MapF wk bF m (fromAll tr n F (seqNext sq)) := let ⟨m, h⟩ := mF1; ⟨m, h.kept gi (by simp)⟩
        have hzs : w.heap.size ≤ wz.heap.size := f1.size
        clear mT1 mF1 mP1 f1 gi rT mF2 mP3 f3
        go_upto_block 6 with fail
        clear hrg s2
        go_wp2_with fail
        go_loopg [10] g2 (fun g _ wr => ∃ lf, RangeF wr bP wz.heap.size nP (part1 tr n Pm lf) lf g ∧ MapF wr bT n (setTo tr n) ∧ (∃ m, MapF wr bF m (fromAll tr n F (seqNext sq))) ∧ Fr (Sm bT bF bP) w wr)
        case atStart => exact ⟨fun j => (Pm j).isSome, by rw [part1_start]; exact rP, mT2, mF3, f4⟩
        case round =>
          obtain ⟨lf, rg, mT3, mF4, f5⟩ := hrel
          rcases rg.next 0 with ⟨hg, hl, hr⟩ | ⟨j, v, w4, g4, hj, hlj, hfj, hr, rg4, hlt, gr4, sz4, hen⟩
          · have M := hide (And.intro rg (And.intro mT3 (And.intro mF4 f5)))
            clear rg mT3 mF4 f5
            go_wp2_with fail
            go_end0
            exact ⟨rfl, M.out.2.2.2, M.out.2.1, M.out.2.2.1, M.out.1.owns.congr (fun i hi => by simp [part1, hl i hi])⟩
          · have sz := store_zero w4 j
            have mT4 : MapF w4 bT n (setTo tr n) := mT3.kept gr4 (by simp; omega)
            have mF5 : ∃ m, MapF w4 bF m (fromAll tr n F (seqNext sq)) := let ⟨m, h⟩ := mF4; ⟨m, h.kept gr4 (by simp; omega)⟩
            have f6 : Fr (Sm bT bF bP) w w4 := f5.grown gr4 (fun i e => .inr (by cases e; exact hzs))
            have M := hide (And.intro rg4 (And.intro mT4 (And.intro mF5 f6)))
            clear mT4 mF5 f6 rg4 mT3 mF4 f5 rg sz4
            go_upto_region 20 with fail
            refine wp_gen fun W hW => ?_
            have gA : w4.grownBy W none := by rw [hW]; exact World.grownBy_alloc w4 _ none
            have fW : Fr (Sm bT bF bP) w W := M.out.2.2.2.grown gA (fun _ e => by cases e)
            have stW := ST.out.fr fW dX
            have s1 := stW.t
            have kW : KeyAt W w4.heap.size 0 j := by rw [hW]; exact keyAt_block (heap_alloc_last _ _)
            have kb := KeyAt.loadV (w := W.drew) kW
            have mTW := M.out.2.1.kept gA (by simp)
            have mFW : ∃ m, MapF W bF m (fromAll tr n F (seqNext sq)) := let ⟨m, h⟩ := M.out.2.2.1; ⟨m, h.kept gA (by simp)⟩
            have rW := M.out.1.kept gA (by simp) (by simp)
            have lk := mTW.drew.look Yba.underlying27 (z := .bool false) rfl hj
            have M2 := hide (And.intro rW (And.intro mTW (And.intro mFW (And.intro fW (And.intro stW kW)))))
            clear hW gA fW stW kW M sz mTW mFW rW hr hen gr4
            by_cases hi : inTo tr n j = true
            · simp only [setTo, hi, if_true, Option.getD_some] at lk
              go_region
              go_wp2_with fail
              go_roundg g4
              case measure => exact hlt
              case rel => exact ⟨upd lf j false, by rw [← part1_keep tr n Pm lf hlj hi]; exact M2.out.1, M2.out.2.1, M2.out.2.2.1, M2.out.2.2.2.1.drew⟩
            · have hi : inTo tr n j = false := by simpa using hi
              simp only [setTo, hi, if_false, Bool.false_eq_true, Option.getD_none] at lk
              go_region
              go_upto_region 21 with fail
              have s2 := M2.out.2.2.2.2.1.p
              have kb2 := KeyAt.loadV (w := W.drew.drew) M2.out.2.2.2.2.2
              obtain ⟨w5, g5, hd, r5, hle, gr5, _⟩ := RangeF.drop (w := W.drew.drew) M2.out.1 Yba.underlying29 hj 0
              rw [part1_drop tr n Pm lf hi, upd_twice] at r5
              have mT5 : MapF w5 bT n (setTo tr n) := MapF.kept (w := W.drew.drew) M2.out.2.1 gr5 (by simp; exact d2)
              have mF6 : ∃ m, MapF w5 bF m (fromAll tr n F (seqNext sq)) := let ⟨m, h⟩ := M2.out.2.2.1; ⟨m, MapF.kept (w := W.drew.drew) h gr5 (by simp; exact d3)⟩
              have f7 : Fr (Sm bT bF bP) w w5 := M2.out.2.2.2.1.drew.drew.grown gr5 (fun i e => .inl (.inr (.inr (by cases e; rfl))))
              have M5 := hide (And.intro r5 (And.intro mT5 (And.intro mF6 f7)))
              clear r5 mT5 mF6 f7 gr5 M2 kb lk s1
              go_region
              go_wp2_with fail
              go_roundg g5
              case measure => go_light; omega
              case rel => exact ⟨_, M5.out⟩
end Go.Proofs.Ybulkdhki
