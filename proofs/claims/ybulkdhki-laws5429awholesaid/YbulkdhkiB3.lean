/-
  What stands in memory (Mem) around forget's call; forget over it.
-/
import Derived.Test.YbulkdhkiB2
namespace Go.Proofs.Ybulkdhki
open Go.RowKit

/-- w' is w, but that at c something else may stand, and that there may be more blocks. -/
structure Agree (w w' : World) (c : Option Addr) : Prop where
  size : w.heap.size ≤ w'.heap.size
  cell : ∀ p : Addr, p.block < w.heap.size → some p ≠ c → w'.cell? p = w.cell? p
  shape : ∀ b, b < w.heap.size → w'.shape? b = w.shape? b
  frozen : ∀ p : Addr, p.block < w.heap.size → w'.frozen? p = w.frozen? p

theorem Agree.refl (w : World) : Agree w w none := ⟨Nat.le_refl _, fun _ _ _ => rfl, fun _ _ => rfl, fun _ _ => rfl⟩
theorem Agree.drewN {w w' : World} {c} (h : Agree w w' c) (q : Nat) : Agree w (w'.drewN q) c := ⟨h.size, h.cell, h.shape, h.frozen⟩
theorem Agree.alloc {w w' : World} {c} (h : Agree w w' c) (o : Obj) : Agree w (w'.alloc o) c := by
  have hs := h.size
  refine ⟨by simp; omega, fun p hp hc => ?_, fun b hb => ?_, fun p hp => ?_⟩
  · rw [World.cell?_alloc_lt _ _ _ (by omega)]; exact h.cell p hp hc
  · rw [← h.shape b hb]
    unfold World.shape?
    rw [Below.heap_alloc _ _ _ (by omega)]
  · exact (World.frozen?_of_block (w := w') (Below.heap_alloc _ _ _ (by omega))).trans (h.frozen p hp)
theorem shape_setCell (w : World) (a : Addr) (v : Value) (b : Nat) : (w.setCell a v).shape? b = w.shape? b := by
  unfold World.shape?
  simp only [World.setCell, Array.getElem?_modify]
  by_cases e : a.block = b
  · subst e
    simp only [if_true]
    cases h : w.heap[a.block]? with
    | none => simp
    | some o => cases o <;> simp <;> split <;> simp
  · simp [e]
theorem Agree.setCell {w w' : World} (h : Agree w w' none) (a : Addr) (v : Value) : Agree w (w'.setCell a v) (some a) := by
  refine ⟨by simpa using h.size, fun p hp hc => ?_, fun b hb => ?_, fun p hp => ?_⟩
  · rw [World.cell?_setCell_other _ _ _ _ (fun e => hc (by rw [e]))]; exact h.cell p hp (by simp)
  · rw [shape_setCell]; exact h.shape b hb
  · simp; exact h.frozen p hp

/-- What stands: the slots' row (block B), r (B + 1), ptrs (B + 2), the blocks that the pointers point to. -/
structure Mem (B n : Nat) (nx nw : Int) (fp form : Option Addr) (ft : Int) (ps qs : Nat → Option Addr) (fs ts : Nat → Int) (w : World) : Prop where
  size : B + 2 < w.heap.size
  next : w.cell? ⟨B + 1, 0, none⟩ = some (.int .u32 nx)
  newest : w.cell? ⟨B + 1, 1, none⟩ = some (.int .u32 nw)
  slots : w.cell? ⟨B + 1, 2, none⟩ = some (.slice (some ⟨B, 0, none⟩) n n)
  qset : w.cell? ⟨B + 1, 3, none⟩ = some (.pointer none)
  cform : w.cell? ⟨B + 1, 4, none⟩ = some (.pointer form)
  first : ∀ i, i < n → w.cell? ⟨B, i * 2, none⟩ = some (.int .u64 (fs i))
  signed : ∀ i, i < n → w.cell? ⟨B, i * 2 + 1, none⟩ = some (.pointer (qs i))
  ptrs : ∀ i, i < n → w.cell? ⟨B + 2, i, none⟩ = some (.pointer (ps i))
  good : ∀ i, i < n → ∀ a, ps i = some a → ∃ b, a = ⟨b, 0, none⟩ ∧ B + 2 < b ∧ b < w.heap.size ∧ w.shape? b = some (111, 66) ∧ w.cell? ⟨b, 65, none⟩ = some (.int .u64 (ts i))
  goodq : ∀ i, i < n → ∀ a, qs i = some a → ps i = some a
  goodF : ∀ a, fp = some a → ∃ b, a = ⟨b, 0, none⟩ ∧ B + 2 < b ∧ b < w.heap.size ∧ w.shape? b = some (116, 34) ∧ w.cell? ⟨b, 33, none⟩ = some (.int .u64 ft)
  goodf : ∀ a, form = some a → fp = some a
  frz : ∀ k o, k ≤ 2 → w.frozen? ⟨B + k, o, none⟩ = false

variable {B n : Nat} {nx nw ft : Int} {fp form : Option Addr} {ps qs : Nat → Option Addr} {fs ts : Nat → Int} {w w' : World}

theorem Mem.agree (h : Mem B n nx nw fp form ft ps qs fs ts w) (a : Agree w w' none) : Mem B n nx nw fp form ft ps qs fs ts w' := by
  have hz := h.size
  have cc : ∀ (b o : Nat) (v : Value), b < w.heap.size → w.cell? ⟨b, o, none⟩ = some v → w'.cell? ⟨b, o, none⟩ = some v := fun b o v hb e => (a.cell ⟨b, o, none⟩ hb (by simp)).trans e
  refine ⟨by have := a.size; omega, cc _ _ _ (by omega) h.next, cc _ _ _ (by omega) h.newest, cc _ _ _ (by omega) h.slots, cc _ _ _ (by omega) h.qset, cc _ _ _ (by omega) h.cform, fun i hi => cc _ _ _ (by omega) (h.first i hi), fun i hi => cc _ _ _ (by omega) (h.signed i hi), fun i hi => cc _ _ _ (by omega) (h.ptrs i hi), fun i hi x hx => ?_, h.goodq, fun x hx => ?_, h.goodf, fun k o hk => (a.frozen ⟨B + k, o, none⟩ (by show B + k < _; omega)).trans (h.frz k o hk)⟩
  · obtain ⟨b, e, h1, h2, h3, h4⟩ := h.good i hi x hx
    exact ⟨b, e, h1, by have := a.size; omega, (a.shape b h2).trans h3, cc _ _ _ h2 h4⟩
  · obtain ⟨b, e, h1, h2, h3, h4⟩ := h.goodF x hx
    exact ⟨b, e, h1, by have := a.size; omega, (a.shape b h2).trans h3, cc _ _ _ h2 h4⟩

/-- A store into the form's cell. -/
theorem Mem.setForm (h : Mem B n nx nw fp form ft ps qs fs ts w) (x : Option Addr) (hx : ∀ a, x = some a → fp = some a) (a : Agree w w' (some ⟨B + 1, 4, none⟩)) (hv : w'.cell? ⟨B + 1, 4, none⟩ = some (.pointer x)) : Mem B n nx nw fp x ft ps qs fs ts w' := by
  have hz := h.size
  have cc : ∀ (b o : Nat) (v : Value), b < w.heap.size → (b ≠ B + 1 ∨ o ≠ 4) → w.cell? ⟨b, o, none⟩ = some v → w'.cell? ⟨b, o, none⟩ = some v := fun b o v hb hne e => (a.cell ⟨b, o, none⟩ hb (by intro e2; simp at e2; omega)).trans e
  refine ⟨by have := a.size; omega, cc _ _ _ (by omega) (by omega) h.next, cc _ _ _ (by omega) (by omega) h.newest, cc _ _ _ (by omega) (by omega) h.slots, cc _ _ _ (by omega) (by omega) h.qset, hv, fun i hi => cc _ _ _ (by omega) (by omega) (h.first i hi), fun i hi => cc _ _ _ (by omega) (by omega) (h.signed i hi), fun i hi => cc _ _ _ (by omega) (by omega) (h.ptrs i hi), fun i hi x hx => ?_, h.goodq, fun x hx => ?_, hx, fun k o hk => (a.frozen ⟨B + k, o, none⟩ (by show B + k < _; omega)).trans (h.frz k o hk)⟩
  · obtain ⟨b, e, h1, h2, h3, h4⟩ := h.good i hi x hx
    exact ⟨b, e, h1, by have := a.size; omega, (a.shape b h2).trans h3, cc _ _ _ h2 (by omega) h4⟩
  · obtain ⟨b, e, h1, h2, h3, h4⟩ := h.goodF x hx
    exact ⟨b, e, h1, by have := a.size; omega, (a.shape b h2).trans h3, cc _ _ _ h2 (by omega) h4⟩

/-- A new form. -/
theorem Mem.newForm (h : Mem B n nx nw none form ft ps qs fs ts w) (b : Nat) (h1 : B + 2 < b) (h2 : b < w.heap.size) (h3 : w.shape? b = some (116, 34)) (h4 : w.cell? ⟨b, 33, none⟩ = some (.int .u64 ft)) : Mem B n nx nw (some ⟨b, 0, none⟩) form ft ps qs fs ts w :=
  ⟨h.size, h.next, h.newest, h.slots, h.qset, h.cform, h.first, h.signed, h.ptrs, h.good, h.goodq, fun a ha => ⟨b, by simpa using ha.symm, h1, h2, h3, h4⟩, fun a ha => (nomatch h.goodf a ha), h.frz⟩

/-- A store into a slot's 'first'. -/
theorem Mem.setFirst (h : Mem B n nx nw fp form ft ps qs fs ts w) (s : Nat) (x : Int) (a : Agree w w' (some ⟨B, s * 2, none⟩)) (hv : w'.cell? ⟨B, s * 2, none⟩ = some (.int .u64 x)) : Mem B n nx nw fp form ft ps qs (fun i => if i = s then x else fs i) ts w' := by
  have hz := h.size
  have cc : ∀ (b o : Nat) (v : Value), b < w.heap.size → (b ≠ B ∨ o ≠ s * 2) → w.cell? ⟨b, o, none⟩ = some v → w'.cell? ⟨b, o, none⟩ = some v := fun b o v hb hne e => (a.cell ⟨b, o, none⟩ hb (by intro e2; simp at e2; omega)).trans e
  refine ⟨by have := a.size; omega, cc _ _ _ (by omega) (by omega) h.next, cc _ _ _ (by omega) (by omega) h.newest, cc _ _ _ (by omega) (by omega) h.slots, cc _ _ _ (by omega) (by omega) h.qset, cc _ _ _ (by omega) (by omega) h.cform, fun i hi => ?_, fun i hi => cc _ _ _ (by omega) (by omega) (h.signed i hi), fun i hi => cc _ _ _ (by omega) (by omega) (h.ptrs i hi), fun i hi x hx => ?_, h.goodq, fun x hx => ?_, h.goodf, fun k o hk => (a.frozen ⟨B + k, o, none⟩ (by show B + k < _; omega)).trans (h.frz k o hk)⟩
  · by_cases e : i = s
    · subst e; simpa using hv
    · simp only [if_neg e]; exact cc _ _ _ (by omega) (by omega) (h.first i hi)
  · obtain ⟨b, e, h1, h2, h3, h4⟩ := h.good i hi x hx
    exact ⟨b, e, h1, by have := a.size; omega, (a.shape b h2).trans h3, cc _ _ _ h2 (by omega) h4⟩
  · obtain ⟨b, e, h1, h2, h3, h4⟩ := h.goodF x hx
    exact ⟨b, e, h1, by have := a.size; omega, (a.shape b h2).trans h3, cc _ _ _ h2 (by omega) h4⟩

/-- A store into a slot's 'signed'. -/
theorem Mem.setSigned (h : Mem B n nx nw fp form ft ps qs fs ts w) (s : Nat) (x : Option Addr) (hx : ∀ a, x = some a → ps s = some a) (a : Agree w w' (some ⟨B, s * 2 + 1, none⟩)) (hv : w'.cell? ⟨B, s * 2 + 1, none⟩ = some (.pointer x)) : Mem B n nx nw fp form ft ps (fun i => if i = s then x else qs i) fs ts w' := by
  have hz := h.size
  have cc : ∀ (b o : Nat) (v : Value), b < w.heap.size → (b ≠ B ∨ o ≠ s * 2 + 1) → w.cell? ⟨b, o, none⟩ = some v → w'.cell? ⟨b, o, none⟩ = some v := fun b o v hb hne e => (a.cell ⟨b, o, none⟩ hb (by intro e2; simp at e2; omega)).trans e
  refine ⟨by have := a.size; omega, cc _ _ _ (by omega) (by omega) h.next, cc _ _ _ (by omega) (by omega) h.newest, cc _ _ _ (by omega) (by omega) h.slots, cc _ _ _ (by omega) (by omega) h.qset, cc _ _ _ (by omega) (by omega) h.cform, fun i hi => cc _ _ _ (by omega) (by omega) (h.first i hi), fun i hi => ?_, fun i hi => cc _ _ _ (by omega) (by omega) (h.ptrs i hi), fun i hi x hx => ?_, fun i hi y hy => ?_, fun x hx => ?_, h.goodf, fun k o hk => (a.frozen ⟨B + k, o, none⟩ (by show B + k < _; omega)).trans (h.frz k o hk)⟩
  · by_cases e : i = s
    · subst e; simpa using hv
    · simp only [if_neg e]; exact cc _ _ _ (by omega) (by omega) (h.signed i hi)
  · obtain ⟨b, e, h1, h2, h3, h4⟩ := h.good i hi x hx
    exact ⟨b, e, h1, by have := a.size; omega, (a.shape b h2).trans h3, cc _ _ _ h2 (by omega) h4⟩
  · by_cases e : i = s
    · subst e; exact hx y (by simpa using hy)
    · exact h.goodq i hi y (by simpa [e] using hy)
  · obtain ⟨b, e, h1, h2, h3, h4⟩ := h.goodF x hx
    exact ⟨b, e, h1, by have := a.size; omega, (a.shape b h2).trans h3, cc _ _ _ h2 (by omega) h4⟩

/-- A store into ptrs (ahead of the slot's own store: the slot's pointer is nil by then or the same). -/
theorem Mem.setPtr (h : Mem B n nx nw fp form ft ps qs fs ts w) (s : Nat) (b : Nat) (h1 : B + 2 < b) (h2 : b < w.heap.size) (h3 : w.shape? b = some (111, 66)) (h4 : w.cell? ⟨b, 65, none⟩ = some (.int .u64 (ts s))) (hq : qs s = none)
    (a : Agree w w' (some ⟨B + 2, s, none⟩)) (hv : w'.cell? ⟨B + 2, s, none⟩ = some (.pointer (some ⟨b, 0, none⟩))) : Mem B n nx nw fp form ft (fun i => if i = s then some ⟨b, 0, none⟩ else ps i) qs fs ts w' := by
  have hz := h.size
  have cc : ∀ (b o : Nat) (v : Value), b < w.heap.size → (b ≠ B + 2 ∨ o ≠ s) → w.cell? ⟨b, o, none⟩ = some v → w'.cell? ⟨b, o, none⟩ = some v := fun b o v hb hne e => (a.cell ⟨b, o, none⟩ hb (by intro e2; simp at e2; omega)).trans e
  refine ⟨by have := a.size; omega, cc _ _ _ (by omega) (by omega) h.next, cc _ _ _ (by omega) (by omega) h.newest, cc _ _ _ (by omega) (by omega) h.slots, cc _ _ _ (by omega) (by omega) h.qset, cc _ _ _ (by omega) (by omega) h.cform, fun i hi => cc _ _ _ (by omega) (by omega) (h.first i hi), fun i hi => cc _ _ _ (by omega) (by omega) (h.signed i hi), fun i hi => ?_, fun i hi x hx => ?_, fun i hi y hy => ?_, fun x hx => ?_, h.goodf, fun k o hk => (a.frozen ⟨B + k, o, none⟩ (by show B + k < _; omega)).trans (h.frz k o hk)⟩
  · by_cases e : i = s
    · subst e; simpa using hv
    · simp only [if_neg e]; exact cc _ _ _ (by omega) (by omega) (h.ptrs i hi)
  · by_cases e : i = s
    · subst e
      exact ⟨b, by simpa using hx.symm, h1, by have := a.size; omega, (a.shape b h2).trans h3, cc _ _ _ h2 (by omega) h4⟩
    · obtain ⟨b, e2, h1, h2, h3, h4⟩ := h.good i hi x (by simpa [e] using hx)
      exact ⟨b, e2, h1, by have := a.size; omega, (a.shape b h2).trans h3, cc _ _ _ h2 (by omega) h4⟩
  · by_cases e : i = s
    · subst e; rw [hq] at hy; exact nomatch hy
    · simp only [if_neg e]; exact h.goodq i hi y hy
  · obtain ⟨b, e, h1, h2, h3, h4⟩ := h.goodF x hx
    exact ⟨b, e, h1, by have := a.size; omega, (a.shape b h2).trans h3, cc _ _ _ h2 (by omega) h4⟩

/-- What forget leaves at the form and at the slots. -/
def formAft (sl tk ft : Int) (fp : Option Addr) : Option Addr := if sl = -1 ∧ ft = tk then none else fp
def slotAft (sl tk : Int) (ts : Nat → Int) (ps : Nat → Option Addr) (i : Nat) : Option Addr := if (i : Int) = sl ∧ ts i = tk then none else ps i

theorem below_drewN {B : Nat} {a w : World} (h : Below B a w) (q : Nat) : Below B a (w.drewN q) := ⟨h.os, h.tape, h.output, h.size, h.block⟩

theorem forget_any (sl tk sz : Int) (h : Mem B n nx nw fp fp ft ps ps fs ts w) (hsl : sl = -1 ∨ ∃ s : Nat, s < n ∧ sl = s) :
    Calls Yba.prog 13 #[.agg #[.pointer (some ⟨B + 1, 0, none⟩), .int .i64 sl, .int .u64 tk, .int .i64 sz]] w fun e w' => e = .returned (.tuple #[]) ∧
      Mem B n nx nw fp (formAft sl tk ft fp) ft ps (slotAft sl tk ts ps) fs ts w' ∧ Below B w w' ∧ (∀ p : Addr, B + 2 < p.block → p.block < w.heap.size → w'.cell? p = w.cell? p) := by
  have hz := h.size
  have quiet : ∀ o q, Below B w ((w.alloc o).drewN q) ∧ (∀ p : Addr, B + 2 < p.block → p.block < w.heap.size → ((w.alloc o).drewN q).cell? p = w.cell? p) := fun o q =>
    ⟨below_drewN ((Below.refl _ _).alloc (by omega) _) _, fun p _ hp => (((Agree.refl w).alloc o).drewN q).cell p hp (by simp)⟩
  have loud : ∀ o q (b c : Nat) (v : Value), B ≤ b → b ≤ B + 2 → Below B w (((w.alloc o).drewN q).setCell ⟨b, c, none⟩ v) ∧ (∀ p : Addr, B + 2 < p.block → p.block < w.heap.size → (((w.alloc o).drewN q).setCell ⟨b, c, none⟩ v).cell? p = w.cell? p) := fun o q b c v hb hb2 =>
    ⟨(below_drewN ((Below.refl _ _).alloc (by omega) _) _).setCell hb _, fun p hp1 hp => ((((Agree.refl w).alloc o).drewN q).setCell ⟨b, c, none⟩ v).cell p hp (by intro e; simp at e; subst e; simp at hp1; omega)⟩
  rcases hsl with rfl | ⟨s, hs, rfl⟩
  · have e2 : slotAft (-1) tk ts ps = ps := funext fun i => by unfold slotAft; rw [if_neg (by omega)]
    cases hf : fp with
    | none =>
      subst hf
      refine (forget_form_nil (B + 1) tk sz w h.cform).mono ?_
      rintro e w' ⟨rfl, q, rfl⟩
      refine ⟨rfl, ?_, (quiet _ q).1, (quiet _ q).2⟩
      rw [e2, show formAft (-1) tk ft none = none by unfold formAft; split <;> rfl]
      exact h.agree (((Agree.refl w).alloc _).drewN q)
    | some a =>
      subst hf
      obtain ⟨b, rfl, h1, h2, h3, h4⟩ := h.goodF a rfl
      by_cases ht : ft = tk
      · subst ht
        refine (forget_form_hit (B + 1) b ft sz w h.cform (h.frz 1 4 (by omega)) h3 h4).mono ?_
        rintro e w' ⟨rfl, q, rfl⟩
        refine ⟨rfl, ?_, (loud _ q _ _ _ (by omega) (by omega)).1, (loud _ q _ _ _ (by omega) (by omega)).2⟩
        rw [e2, show formAft (-1) ft ft (some ⟨b, 0, none⟩) = none by unfold formAft; rw [if_pos ⟨rfl, rfl⟩]]
        exact h.setForm none (fun _ e => nomatch e) ((((Agree.refl w).alloc _).drewN q).setCell _ _) (World.cell?_setCell_same _ _ _ ((((Agree.refl w).alloc _).drewN q).cell ⟨B + 1, 4, none⟩ (by show B + 1 < _; omega) (by simp) |>.trans h.cform))
      · refine (forget_form_miss (B + 1) b tk sz ft w h.cform h3 h4 ht).mono ?_
        rintro e w' ⟨rfl, q, rfl⟩
        refine ⟨rfl, ?_, (quiet _ q).1, (quiet _ q).2⟩
        rw [e2, show formAft (-1) tk ft (some ⟨b, 0, none⟩) = some ⟨b, 0, none⟩ by unfold formAft; rw [if_neg (fun e => ht e.2)]]
        exact h.agree (((Agree.refl w).alloc _).drewN q)
  · have e2 : formAft s tk ft fp = fp := by unfold formAft; rw [if_neg (by omega)]
    rw [e2]
    have hsg := h.signed s hs
    cases hf : ps s with
    | none =>
      rw [hf] at hsg
      refine (forget_slot_nil (B + 1) B n s tk sz w hs h.slots hsg).mono ?_
      rintro e w' ⟨rfl, q, rfl⟩
      refine ⟨rfl, ?_, (quiet _ q).1, (quiet _ q).2⟩
      have e3 : slotAft s tk ts ps = ps := funext fun i => by
        unfold slotAft
        split
        · rename_i hi
          obtain rfl : i = s := by omega
          exact hf.symm
        · rfl
      rw [e3]
      exact h.agree (((Agree.refl w).alloc _).drewN q)
    | some a =>
      obtain ⟨b, rfl, h1, h2, h3, h4⟩ := h.good s hs a hf
      rw [hf] at hsg
      by_cases ht : ts s = tk
      · refine (forget_slot_hit (B + 1) B b n s tk sz w hs h.slots hsg (h.frz 0 _ (by omega)) h3 (by rw [h4, ht])).mono ?_
        rintro e w' ⟨rfl, q, rfl⟩
        refine ⟨rfl, ?_, (loud _ q _ _ _ (by omega) (by omega)).1, (loud _ q _ _ _ (by omega) (by omega)).2⟩
        have e3 : slotAft s tk ts ps = fun i => if i = s then none else ps i := funext fun i => by
          unfold slotAft
          by_cases e : i = s
          · subst e; simp [ht]
          · rw [if_neg (by omega), if_neg e]
        rw [e3]
        exact h.setSigned s none (fun _ e => nomatch e) ((((Agree.refl w).alloc _).drewN q).setCell _ _) (World.cell?_setCell_same _ _ _ ((((Agree.refl w).alloc _).drewN q).cell ⟨B, s * 2 + 1, none⟩ (by show B < _; omega) (by simp) |>.trans hsg))
      · refine (forget_slot_miss (B + 1) B b n s tk sz (ts s) w hs h.slots hsg h3 h4 ht).mono ?_
        rintro e w' ⟨rfl, q, rfl⟩
        refine ⟨rfl, ?_, (quiet _ q).1, (quiet _ q).2⟩
        have e3 : slotAft s tk ts ps = ps := funext fun i => by
          unfold slotAft
          rw [if_neg]
          rintro ⟨hi, hi2⟩
          obtain rfl : i = s := by omega
          exact ht hi2
        rw [e3]
        exact h.agree (((Agree.refl w).alloc _).drewN q)
end Go.Proofs.Ybulkdhki
