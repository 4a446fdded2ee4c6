/-
  holdfast.LawS5429AWhole: the 256 keys; a map keyed by them as a function of the byte.
-/
import Derived.Test.YbulkdhkiProg
import Derived.Maps.OwnSet
import Derived.Maps.RangeWalk
import Derived.Maps.Ext
import Derived.DeepKeys4
import Derived.KernelRfl
namespace Go.Proofs.Ybulkdhki
open Go.Maps (Keyed)

theorem laidOut0 : laidOutB Yba.prog = true := by kernel_rfl
theorem row40 : (40 : TypeId) < Yba.prog.types.size := of_decide_eq_true (by kernel_rfl)
theorem wide40 : (match Yba.prog.underlying 40 with | some (.array _ _) | some (.struct _) => true | _ => false) = true := by kernel_rfl
set_option maxRecDepth 100000 in
theorem keyed40 : Keyed Yba.prog 40 := Keyed.of_law (deep_law_laid laidOut0 (m := 2) (by omega) row40 (by kernel_rfl) wide40)

/-- The cells of the key of byte j. -/
def keyCells (j : Nat) : Array Value :=
  #[.int .u8 j, .int .u8 0, .int .u8 0, .int .u8 0, .int .u8 0, .int .u8 0, .int .u8 0, .int .u8 0, .int .u8 0, .int .u8 0, .int .u8 0, .int .u8 0, .int .u8 0, .int .u8 0, .int .u8 0, .int .u8 0,
    .int .u8 0, .int .u8 0, .int .u8 0, .int .u8 0, .int .u8 0, .int .u8 0, .int .u8 0, .int .u8 0, .int .u8 0, .int .u8 0, .int .u8 0, .int .u8 0, .int .u8 0, .int .u8 0, .int .u8 0, .int .u8 (255 - j)]
def keyVal (j : Nat) : Value := .agg (keyCells j)
theorem keyCells_size (j : Nat) : (keyCells j).size = 32 := rfl
theorem keyVal_inj {i j : Nat} (h : keyVal i = keyVal j) : i = j := by
  simp [keyVal, keyCells] at h
  omega

theorem keys_some : ((List.range 256).all fun j => (keyOf Yba.prog 40 (keyVal j)).isSome) = true := by kernel_rfl
theorem kl_exists : ∃ k : Nat → Lit, ∀ j, j < 256 → keyOf Yba.prog 40 (keyVal j) = some (k j) := by
  refine ⟨fun j => (keyOf Yba.prog 40 (keyVal j)).getD (.bool false), fun j h => ?_⟩
  have h1 := List.all_eq_true.1 keys_some j (by simpa using h)
  obtain ⟨l, hl⟩ := Option.isSome_iff_exists.1 h1
  simp [hl]
noncomputable def kl : Nat → Lit := Classical.choose kl_exists
theorem keyOf_kl {j : Nat} (h : j < 256) : keyOf Yba.prog 40 (keyVal j) = some (kl j) := Classical.choose_spec kl_exists j h
theorem kl_inj {i j : Nat} (hi : i < 256) (hj : j < 256) (h : kl i = kl j) : i = j :=
  keyVal_inj (keyed40.inj (keyOf_kl hi) (by rw [h]; exact keyOf_kl hj))
set_option maxRecDepth 100000 in
theorem kl_key {j : Nat} (h : j < 256) : WideAt.IsKeyLit (kl j) := keyed40.key (keyOf_kl h)

/-! ### how many of the first N -/
def cntTo (p : Nat → Bool) : Nat → Nat
  | 0 => 0
  | n + 1 => cntTo p n + (if p n then 1 else 0)
theorem cntTo_upd (p : Nat → Bool) (j : Nat) (b : Bool) : ∀ N, cntTo (fun i => if i = j then b else p i) N + (if j < N ∧ p j = true then 1 else 0) = cntTo p N + (if j < N ∧ b = true then 1 else 0)
  | 0 => by simp [cntTo]
  | n + 1 => by
    have ih := cntTo_upd p j b n
    simp only [cntTo]
    by_cases h : n = j
    · subst h
      by_cases hp : p n = true <;> cases b <;> simp [hp] at ih ⊢ <;> omega
    · have e : (j < n + 1) = (j < n) := propext ⟨fun h1 => by omega, fun h1 => by omega⟩
      simp only [h, if_false, e]
      omega
theorem cntTo_congr {p q : Nat → Bool} : ∀ N, (∀ i, i < N → p i = q i) → cntTo p N = cntTo q N
  | 0, _ => rfl
  | n + 1, h => by simp only [cntTo]; rw [cntTo_congr n (fun i hi => h i (by omega)), h n (by omega)]
theorem cntTo_none : ∀ N, cntTo (fun _ => false) N = 0
  | 0 => rfl
  | n + 1 => by simp [cntTo, cntTo_none n]
theorem cntTo_le (p : Nat → Bool) : ∀ N, cntTo p N ≤ N
  | 0 => Nat.le_refl _
  | n + 1 => by simp only [cntTo]; have := cntTo_le p n; split <;> omega

/-! ### a map as a function of the byte -/
/-- An element reads as itself. -/
def R0 (v : Value) : Option (DataW Value × List MemPlace) := some (.held v, [])
theorem R0_inv {v : Value} {y : DataW Value × List MemPlace} (h : R0 v = some y) : y = (.held v, []) := by simp [R0] at h; exact h.symm

def upd {α : Type} (f : Nat → α) (j : Nat) (x : α) (i : Nat) : α := if i = j then x else f i
theorem upd_same {α : Type} (f : Nat → α) (j : Nat) (x : α) : upd f j x j = x := by simp [upd]
theorem upd_other {α : Type} (f : Nat → α) {j i : Nat} (x : α) (h : i ≠ j) : upd f j x i = f i := by simp [upd, h]

structure Rep (D : DataW Value) (f : Nat → Option Value) : Prop where
  has : ∀ j, j < 256 → Maps.has D (kl j) = (f j).isSome
  at_ : ∀ j v, j < 256 → f j = some v → ∀ z, D.atKey (kl j) z = .held v
  all : ∀ l, Maps.has D l = true → ∃ j, j < 256 ∧ l = kl j
  size : Maps.size D = cntTo (fun j => (f j).isSome) 256

theorem rep_empty : Rep (.map []) (fun _ => none) := ⟨fun _ _ => rfl, fun _ _ _ h => (by cases h), fun _ h => (by cases h), by simp [Maps.size, cntTo_none]⟩

theorem Rep.put {D : DataW Value} {f : Nat → Option Value} (h : Rep D f) (ht : Maps.Tidy D) {j : Nat} (hj : j < 256) (v : Value) : Rep (D.put (kl j) (.held v)) (upd f j (some v)) := by
  refine ⟨fun i hi => ?_, fun i u hi hu z => ?_, fun l hl => ?_, ?_⟩
  · by_cases e : i = j
    · subst e; rw [upd_same]; exact Maps.has_put_same ht.isMap (kl_key hj) _
    · rw [upd_other _ _ e, Maps.has_put_other (fun c => e (kl_inj hi hj c))]; exact h.has i hi
  · by_cases e : i = j
    · subst e; rw [upd_same] at hu; cases hu; exact Maps.atKey_put_same ht.isMap (kl_key hj) _ z
    · rw [upd_other _ _ e] at hu; rw [Maps.atKey_put_other (fun c => e (kl_inj hi hj c))]; exact h.at_ i u hi hu z
  · by_cases e : l = kl j
    · exact ⟨j, hj, e⟩
    · rw [Maps.has_put_other e] at hl; exact h.all l hl
  · have e := cntTo_upd (fun i => (f i).isSome) j true 256
    have e2 : (fun i => (upd f j (some v) i).isSome) = fun i => if i = j then true else (f i).isSome := by
      funext i; by_cases c : i = j <;> simp [upd, c]
    rw [Maps.size_put ht, h.has j hj, h.size, e2]
    cases hc : (f j).isSome <;> simp [hc, hj] at e ⊢ <;> omega

theorem Rep.del {D : DataW Value} {f : Nat → Option Value} (h : Rep D f) (ht : Maps.Tidy D) {j : Nat} (hj : j < 256) : Rep (D.del (kl j)) (upd f j none) := by
  refine ⟨fun i hi => ?_, fun i u hi hu z => ?_, fun l hl => ?_, ?_⟩
  · by_cases e : i = j
    · subst e; rw [upd_same]; exact Maps.has_del_same
    · rw [upd_other _ _ e, Maps.has_del_other (fun c => e (kl_inj hi hj c))]; exact h.has i hi
  · by_cases e : i = j
    · subst e; rw [upd_same] at hu; cases hu
    · rw [upd_other _ _ e] at hu; rw [Maps.atKey_del_other (fun c => e (kl_inj hi hj c))]; exact h.at_ i u hi hu z
  · by_cases e : l = kl j
    · exact ⟨j, hj, e⟩
    · rw [Maps.has_del_other e] at hl; exact h.all l hl
  · have e := cntTo_upd (fun i => (f i).isSome) j false 256
    have e2 : (fun i => (upd f j none i).isSome) = fun i => if i = j then false else (f i).isSome := by
      funext i; by_cases c : i = j <;> simp [upd, c]
    have e3 := Maps.size_del (k := kl j) ht
    rw [h.has j hj, h.size] at e3
    rw [e2]
    cases hc : (f j).isSome <;> simp [hc, hj] at e e3 ⊢ <;> omega

/-- BLOCK b OF w IS A MAP OF AT MOST n ENTRIES; f j: what it holds at the key of byte j. -/
def MapF (w : World) (b n : Nat) (f : Nat → Option Value) : Prop := ∃ D, w.ownsMap Yba.prog 40 R0 b n D ∧ Rep D f

section
variable {w w' : World} {b n : Nat} {f : Nat → Option Value}
theorem mapF_made (w : World) : MapF (w.alloc (.map #[] 0)) w.heap.size 0 (fun _ => none) := ⟨_, World.ownsMap_made _ _ _ _, rep_empty⟩
theorem MapF.lt (h : MapF w b n f) : b < w.heap.size := let ⟨_, h1, _⟩ := h; h1.lt
theorem MapF.mono (h : MapF w b n f) {n' : Nat} (hn : n ≤ n') : MapF w b n' f := let ⟨D, h1, h2⟩ := h; ⟨D, h1.mono hn, h2⟩
theorem MapF.kept {row : Option Nat} (h : MapF w b n f) (hg : w.grownBy w' row) (hne : some b ≠ row) : MapF w' b n f := let ⟨D, h1, h2⟩ := h; ⟨D, h1.kept hg hne, h2⟩
theorem MapF.congr {g : Nat → Option Value} (h : MapF w b n f) (hg : ∀ j, j < 256 → f j = g j) : MapF w b n g := by
  obtain ⟨D, h1, h2⟩ := h
  exact ⟨D, h1, fun j hj => by rw [← hg j hj]; exact h2.has j hj, fun j v hj hv => h2.at_ j v hj (by rw [hg j hj]; exact hv), h2.all, by
    rw [h2.size]; exact cntTo_congr 256 (fun i hi => by rw [hg i hi])⟩
theorem MapF.len {t e : TypeId} (h : MapF w b n f) (ht : Yba.prog.underlying t = some (.map 40 e)) (ty : TypeId) : (Builtin.len_ #[t] ty #[.map (some b)]).run Yba.prog w = .ok (.int .i64 (cntTo (fun j => (f j).isSome) 256)) w := by
  obtain ⟨D, h1, h2⟩ := h
  rw [h1.len ht ty, h2.size]
theorem MapF.look {t e : TypeId} (h : MapF w b n f) (ht : Yba.prog.underlying t = some (.map 40 e)) {z : Value} (hz : (zeroValue e).run Yba.prog w = .ok z w) {j : Nat} (hj : j < 256) :
    (Instr.lookup t (.map (some b)) (keyVal j) false).run Yba.prog w = .ok ((f j).getD z) w := by
  obtain ⟨D, h1, h2⟩ := h
  obtain ⟨v, ps, hr, hv⟩ := h1.lookup keyed40 ht hz (zd := .held z) rfl (keyOf_kl hj)
  rw [hr]
  have hv := R0_inv hv
  cases hf : f j with
  | none =>
    rw [Maps.atKey_of_not_has (by rw [h2.has j hj, hf]; rfl)] at hv
    simp at hv
    simp [hv.1]
  | some u =>
    rw [h2.at_ j u hj hf] at hv
    simp at hv
    simp [hv.1]
theorem MapF.look_ok {t e : TypeId} (h : MapF w b n f) (ht : Yba.prog.underlying t = some (.map 40 e)) {z : Value} (hz : (zeroValue e).run Yba.prog w = .ok z w) {j : Nat} (hj : j < 256) :
    (Instr.lookup t (.map (some b)) (keyVal j) true).run Yba.prog w = .ok (.tuple #[(f j).getD z, .bool (f j).isSome]) w := by
  obtain ⟨D, h1, h2⟩ := h
  obtain ⟨v, ps, hr, hv⟩ := h1.look_ok keyed40 ht hz (zd := .held z) rfl (keyOf_kl hj)
  rw [hr, h2.has j hj]
  have hv := R0_inv hv
  cases hf : f j with
  | none =>
    rw [Maps.atKey_of_not_has (by rw [h2.has j hj, hf]; rfl)] at hv
    simp at hv
    simp [hv.1]
  | some u =>
    rw [h2.at_ j u hj hf] at hv
    simp at hv
    simp [hv.1]
theorem MapF.store {t e : TypeId} (h : MapF w b n f) (ht : Yba.prog.underlying t = some (.map 40 e)) (hn : n < maxLen) {j : Nat} (hj : j < 256) (v : Value) :
    ∃ w', (Instr.mapUpdate t (.map (some b)) (keyVal j) v).run Yba.prog w = .ok () w' ∧ MapF w' b (n + 1) (upd f j (some v)) ∧ w.grownBy w' (some b) ∧ w'.heap.size = w.heap.size := by
  obtain ⟨D, h1, h2⟩ := h
  obtain ⟨w', hr, h3, h4⟩ := h1.store keyed40 ht hn (keyOf_kl hj) (val := v) rfl
  refine ⟨w', hr, ⟨_, h3, h2.put (h1.tidy keyed40) hj v⟩, h4.grown, ?_⟩
  obtain ⟨es, c, es', c', _, rfl⟩ := h4
  simp [Go.ChangeMaps.setBlock]
theorem MapF.clear {t e : TypeId} (h : MapF w b n f) (ht : Yba.prog.underlying t = some (.map 40 e)) (ty : TypeId) :
    ∃ w', (Builtin.clear_ #[t] ty #[.map (some b)]).run Yba.prog w = .ok (.tuple #[]) w' ∧ MapF w' b 0 (fun _ => none) ∧ w.grownBy w' (some b) := by
  obtain ⟨D, ⟨es, clock, hb, F, hs, hD⟩, h2⟩ := h
  refine ⟨Go.ChangeMaps.setBlock w b (.map #[] clock), ?_, ⟨.map [], ⟨#[], clock, Go.ChangeMaps.heap_setBlock_same hb _, ⟨by simp, ?_, by simp⟩, Nat.le_refl _, rfl⟩, rep_empty⟩, ⟨rfl, rfl, rfl, by simp [Go.ChangeMaps.setBlock], fun i _ hi => Go.ChangeMaps.heap_setBlock_other hb _ (fun e => hi (by rw [e]))⟩⟩
  · simp [Builtin.clear_, run_underlying ht, MapKept.run_getObj_map hb, MapKept.run_setObj_map _ hb, Result.andThen, Go.ChangeMaps.setBlock]
  · exact MapKept.stamped_empty clock
end
end Go.Proofs.Ybulkdhki
