/-
  The states that the law's walk goes through (LawS5424CWhole, function 4): plain lemmas, no walk.
-/
import Derived.Test.YbulkdhhqC5
import Derived.Deep.DeepCutAuto
import Derived.Deep.CutBlock
namespace Go.Proofs.Ybulkdhhq
open Go.RowKit

theorem Yba.info2 : (Yba.prog.info? 2).map (fun i => (i.zero, i.size, i.bytes)) = some (some (.int .i64 0), 1, 8) := by kernel_rfl
theorem Yba.info38 : (Yba.prog.info? 38).map (fun i => (i.zero, i.size, i.bytes)) = some (some (.pointer none), 1, 8) := by kernel_rfl
theorem Yba.info55 : (Yba.prog.info? 55).map (fun i => (i.zero, i.size, i.bytes)) = some (some (.agg #[.pointer none, .slice none 0 0]), 2, 32) := by kernel_rfl

/-- The bases of the segments. -/
def bs (b0 : Int) (gg : Nat → Int) : Nat → Int
  | 0 => b0
  | j + 1 => bs b0 gg j + 1 + gg j

theorem bs_bd (b0 : Int) (gg : Nat → Int) (h0 : 0 ≤ b0) (h1 : b0 ≤ 65535) (n : Nat) (hg : ∀ i, i < n → 0 ≤ gg i ∧ gg i ≤ 255) : ∀ j, j ≤ n → 0 ≤ bs b0 gg j ∧ bs b0 gg j ≤ 65535 + 256 * (j : Int)
  | 0, _ => by simp [bs]; omega
  | j + 1, hj => by
    have h := bs_bd b0 gg h0 h1 n hg j (by omega)
    have h2 := hg j (by omega)
    simp only [bs]
    omega

theorem bs_up (b0 : Int) (gg : Nat → Int) (n : Nat) (hg : ∀ i, i < n → 0 ≤ gg i ∧ gg i ≤ 255) (i : Nat) : ∀ j, i < j → j ≤ n → bs b0 gg i < bs b0 gg j
  | 0, h, _ => absurd h (Nat.not_lt_zero _)
  | j + 1, h, hj => by
    have h2 := hg j (by omega)
    by_cases e : i = j
    · subst e; simp only [bs]; omega
    · have := bs_up b0 gg n hg i j (by omega) (by omega)
      simp only [bs]
      omega

theorem Fill.at {wr : World} {b : Nat} {t : TypeId} {n k : Nat} {f : Nat → Value} (h : Fill wr b t n k f) {i : Nat} (hi : i < k) (hn : i < n) : wr.cell? ⟨b, i, none⟩ = some (f i) := by
  obtain ⟨g, hg, hf⟩ := h
  rw [hg.cell hn, hf i hi]

theorem bases_begin (wr : World) (n : Nat) (v z : Value) (t : TypeId) (f : Nat → Value) (h0 : f 0 = v) :
    Fill (wr.alloc (.cells ((madeCells #[z] (n + 1)).setIfInBounds 0 v) t)) wr.heap.size t (n + 1) 1 f := by
  have h := World.rowIs_alloc wr ((madeCells #[z] (n + 1)).setIfInBounds 0 v) t (fun i => if i = 0 then v else z) (fun i hi => by
    simp only [Array.size_setIfInBounds, size_madeCells] at hi
    rw [Array.getElem?_setIfInBounds]
    by_cases e : i = 0
    · subst e; simp [size_madeCells]
    · rw [if_neg (fun h => e h.symm), if_neg e]
      simp [madeCells, hi, Nat.mod_one])
  simp only [Array.size_setIfInBounds, size_madeCells] at h
  refine ⟨_, h, fun j hj => ?_⟩
  obtain rfl : j = 0 := by omega
  simp [h0]

theorem addr_add (b o j : Nat) : (⟨b, o, none⟩ : Addr).add j = ⟨b, o + j, none⟩ := by simp [Addr.add]

/-- The bases and the segments as they lie in memory. -/
structure A2 (B : Nat) (w wr : World) (nb : Nat) (base : Nat → Int) : Prop where
  bel : Below B w wr
  size : B + 2 + nb ≤ wr.heap.size
  brow : ∀ j, j < nb → wr.cell? ⟨B, j, none⟩ = some (.int .i64 (base j))
  segs : Segs wr (B + 1) (B + 2) nb base

theorem A2.next {B h : Nat} {w wr wx : World} {nb : Nat} {base : Nat → Int} (a : A2 B w wr nb base) (hb : Below h wr wx) (hh : B + 2 + nb ≤ h) : A2 B w wx nb base :=
  ⟨a.bel.trans (hb.mono (by omega)), Nat.le_trans a.size hb.size, fun j hj => by rw [hb.cell (p := ⟨B, j, none⟩) (by show B < h; omega)]; exact a.brow j hj, a.segs.below hb (by omega) (by omega)⟩

/-- The second loop: k segments are made. -/
structure L2 (B : Nat) (w wr : World) (nb k : Nat) (base : Nat → Int) : Prop where
  bel : Below B w wr
  size : wr.heap.size = B + 2 + k
  brow : wr.rowIs B 2 nb (fun j => .int .i64 (base j))
  row : Fill wr (B + 1) 38 nb k (fun j => .pointer (some ⟨B + 2 + j, 0, none⟩))
  blk : ∀ j, j < k → ∃ c, wr.heap[B + 2 + j]? = some (.cells c 43 (0, 0)) ∧ c[0]? = some (.int .i64 (base j))

theorem Fill.other {wr : World} {b : Nat} {t : TypeId} {n k : Nat} {f : Nat → Value} (h : Fill wr b t n k f) {a : Addr} (ha : b ≠ a.block) (v : Value) : Fill (wr.setCell a v) b t n k f := by
  obtain ⟨g, hg, hf⟩ := h
  exact ⟨g, hg.setOther ha v, hf⟩
theorem Fill.alloc {wr : World} {b : Nat} {t : TypeId} {n k : Nat} {f : Nat → Value} (h : Fill wr b t n k f) (o : Obj) : Fill (wr.alloc o) b t n k f := by
  obtain ⟨g, hg, hf⟩ := h
  exact ⟨g, hg.alloc o, hf⟩
theorem Fill.block {wr wx : World} {b : Nat} {t : TypeId} {n k : Nat} {f : Nat → Value} (h : Fill wr b t n k f) (e : wx.heap[b]? = wr.heap[b]?) : Fill wx b t n k f := by
  obtain ⟨g, hg, hf⟩ := h
  exact ⟨g, hg.of_block e, hf⟩

theorem L2.step {B : Nat} {w wr : World} {nb k : Nat} {base : Nat → Int} (h : L2 B w wr nb k base) (c : Array Value) (hc : c[0]? = some (.int .i64 (base k))) :
    L2 B w ((wr.alloc (.cells c 43)).setCell ⟨B + 1, k, none⟩ (.pointer (some ⟨B + 2 + k, 0, none⟩))) nb (k + 1) base := by
  refine ⟨(h.bel.alloc (by have := h.size; omega) _).setCell (by show B ≤ B + 1; omega) _, by simp [h.size]; omega, (h.brow.alloc _).setOther (by show B ≠ B + 1; omega) _, (h.row.alloc _).step, fun j hj => ?_⟩
  rw [Below.heap_setCell _ _ _ _ (by show B + 2 + j ≠ B + 1; omega)]
  by_cases e : j = k
  · subst e
    rw [← h.size, heap_alloc_new]
    exact ⟨c, rfl, hc⟩
  · rw [Below.heap_alloc _ _ _ (by have := h.size; omega)]
    exact h.blk j (by omega)

theorem L2.done {B : Nat} {w wr : World} {nb : Nat} {base : Nat → Int} (h : L2 B w wr nb nb base) (hp : 0 < nb) (hl : nb ≤ 4097) (hu : ∀ i j, i < j → j < nb → base i < base j) : A2 B w wr nb base :=
  ⟨h.bel, by have := h.size; omega, fun j hj => h.brow.cell hj, hp, hl, fun j hj => h.row.full.cell hj, fun j hj => by
    obtain ⟨c, hc, h0⟩ := h.blk j hj
    rw [cell_of_row _ _ _ _ _ _ hc]; exact h0, fun j hj => by
    obtain ⟨c, hc, _⟩ := h.blk j hj
    exact ⟨c, hc⟩, hu⟩

/-- A copy of a row: n elements of k cells. -/
def Cpy (wr : World) (v : Value) (n k : Nat) (f : Nat → Value) : Prop :=
  ∃ a c, v = .slice a n c ∧ (0 < n → ∃ b, a = some ⟨b, 0, none⟩ ∧ b < wr.heap.size ∧ ∀ i, i < n * k → wr.cell? ⟨b, i, none⟩ = some (f i))

theorem Cpy.below {wr wx : World} {v : Value} {n k : Nat} {f : Nat → Value} (h : Cpy wr v n k f) (hb : Below wr.heap.size wr wx) : Cpy wx v n k f := by
  obtain ⟨a, c, rfl, h⟩ := h
  refine ⟨a, c, rfl, fun h0 => ?_⟩
  obtain ⟨b, rfl, hlt, hc⟩ := h h0
  exact ⟨b, rfl, Nat.lt_of_lt_of_le hlt hb.size, fun i hi => by rw [hb.cell (p := ⟨b, i, none⟩) hlt]; exact hc i hi⟩

theorem Cpy.of_owns {wr : World} {B e size n : Nat} {v : Value} {f : Nat → Value} (h : wr.ownsRow B e size v n ((List.range (n * size)).map f)) : Cpy wr v n size f := by
  have hk := h
  obtain ⟨h1, h2⟩ := h
  rcases h2 with ⟨rfl, rfl⟩ | ⟨g, cap, cur, rfl, hg, hh, r⟩
  · exact ⟨none, 0, rfl, fun h => absurd h (Nat.lt_irrefl _)⟩
  · refine ⟨_, _, rfl, fun h0 => ⟨g, rfl, lt_of_block hh, fun i hi => ?_⟩⟩
    rw [hk.cellAt i hi]
    simp [hi]

/-- 'append([]T(nil), src...)': a copy in memory of its own. -/
theorem wpList_clone {P : Program} (w : World) {ops : Array Oper} {rest : List Oper} {o : Oper} {a : Act} {Q : Exit → Act → World → Prop} (hgd : o.guard = none) (s x : Operand) (t : TypeId)
    (ho : o.op = .call { callee := .builtin .append, args := #[s, x], argTypes := #[t, t] })
    (e : TypeId) (z : Value) (size bytes : Nat) (ht : P.underlying t = some (.slice e)) (hinfo : (P.info? e).map (fun i => (i.zero, i.size, i.bytes)) = some (some z, size, bytes)) (hzs : z.cells.size = size) (hsz : 0 < size)
    (hs : a.eval s = .slice none 0 0) (ad : Addr) (m c : Nat) (f : Nat → Value) (hx : a.eval x = .slice (some ad) m c) (hf : ∀ j, j < m * size → w.cell? (ad.add j) = some (f j)) (h1 : ∀ j, (f j).oneCell' = true)
    (h63 : m ≤ maxLen) (hb : m * bytes ≤ 140737488355328)
    (h : ∀ v' w', Cpy w' v' m size f → Below w.heap.size w w' → wpList P ops Q rest (a.put o.dst v') w') : wpList P ops Q (o :: rest) a w := by
  obtain ⟨i, hi, hz, hsi, hby⟩ := info_parts hinfo
  refine wpList_append_own w hgd s x t ho w.heap.size e i z size bytes ht hi hz hsi hby hzs hsz _ 0 [] hs (World.ownsRow_nil _ _ _ _) ad m c ((List.range (m * size)).map f) hx (by simp) (fun j u hj => ?_) (fun u hu => ?_) (by simpa using h63) (by simpa using hb) (Nat.le_refl _) (fun v' w' hown hg _ => ?_)
  · have hlt : j < m * size := by
      rcases Nat.lt_or_ge j (m * size) with hlt | hge
      · exact hlt
      · rw [List.getElem?_eq_none (by simpa using hge)] at hj; simp at hj
    rw [List.getElem?_map, List.getElem?_range hlt] at hj
    simp at hj
    subst hj
    exact hf j hlt
  · simp at hu
    obtain ⟨k, _, rfl⟩ := hu
    exact h1 k
  · rw [Nat.zero_add, List.nil_append] at hown
    exact h v' w' (Cpy.of_owns hown) ((Below.refl _ _).grown hg (Nat.le_refl _) (fun k hk => by simp [Value.ownBlock] at hk))

/-- The queue, its first k places filled. -/
structure QP (wr : World) (Q N k : Nat) (rb gb nn cc ff ll : Nat → Nat) (dr : Nat → Bool) : Prop where
  row : ∃ f, wr.rowIs Q 55 (N * 2) f ∧ ∀ i, i < k → f (i * 2) = .pointer (some ⟨rb i, 0, none⟩) ∧ f (i * 2 + 1) = .slice none 0 0
  rlt : ∀ i, i < k → Q < rb i ∧ rb i < wr.heap.size
  glt : ∀ i, i < k → Q < gb i ∧ gb i < wr.heap.size
  drop : ∀ i, i < k → dr i = true → wr.cell? ⟨rb i, 1, none⟩ = some (.slice none 0 0)
  keep : ∀ i, i < k → dr i = false → Rec wr (rb i) (gb i) (nn i) (cc i) (ff i) (ll i)

theorem Rec.other {w : World} {b g n c f l : Nat} (h : Rec w b g n c f l) {a : Addr} (v : Value) (h1 : b ≠ a.block) (h2 : g ≠ a.block) : Rec (w.setCell a v) b g n c f l :=
  ⟨h.f63, h.l64, h.len, by rw [World.cell?_setCell_other _ _ _ _ (fun e => h1 (by rw [e]))]; exact h.places, by rw [World.cell?_setCell_other _ _ _ _ (fun e => h1 (by rw [e]))]; exact h.status,
    fun j hj => by rw [World.cell?_setCell_other _ _ _ _ (fun e => h2 (by rw [e]))]; exact h.byts j hj, h.cap⟩

def upd (f : Nat → Nat) (k v : Nat) (i : Nat) : Nat := if i = k then v else f i
theorem upd_at (f : Nat → Nat) (k v : Nat) : upd f k v k = v := by simp [upd]
theorem upd_ne (f : Nat → Nat) (k v i : Nat) (h : i ≠ k) : upd f k v i = f i := by simp [upd, h]

theorem QP.step {wr wx : World} {Q N k : Nat} {rb gb nn cc ff ll : Nat → Nat} {dr : Nat → Bool} (h : QP wr Q N k rb gb nn cc ff ll dr) (hb : Below wr.heap.size wr wx) (b g n c : Nat)
    (b1 : wr.heap.size ≤ b) (b2 : b < wx.heap.size) (g1 : wr.heap.size ≤ g) (g2 : g < wx.heap.size) (hd : dr k = true → wx.cell? ⟨b, 1, none⟩ = some (.slice none 0 0)) (hk : dr k = false → Rec wx b g n c (ff k) (ll k)) :
    QP ((wx.setCell ⟨Q, k * 2, none⟩ (.pointer (some ⟨b, 0, none⟩))).setCell ⟨Q, k * 2 + 1, none⟩ (.slice none 0 0)) Q N (k + 1) (upd rb k b) (upd gb k g) (upd nn k n) (upd cc k c) ff ll dr := by
  obtain ⟨f, hf, hv⟩ := h.row
  have hQ := hf.lt
  refine ⟨⟨_, ((hf.of_block (hb.block Q hQ)).set _ _).set _ _, fun i hi => ?_⟩, fun i hi => ?_, fun i hi => ?_, fun i hi hdi => ?_, fun i hi hdi => ?_⟩
  · by_cases e : i = k
    · subst e
      rw [upd_at]
      refine ⟨?_, by simp⟩
      rw [if_neg (by omega), if_pos rfl]
    · rw [upd_ne _ _ _ _ e]
      have := hv i (by omega)
      refine ⟨?_, ?_⟩
      · rw [if_neg (by omega), if_neg (by omega)]; exact this.1
      · rw [if_neg (by omega), if_neg (by omega)]; exact this.2
  · have hsz : ((wx.setCell ⟨Q, k * 2, none⟩ (.pointer (some ⟨b, 0, none⟩))).setCell ⟨Q, k * 2 + 1, none⟩ (.slice none 0 0)).heap.size = wx.heap.size := by simp
    rw [hsz]
    by_cases e : i = k
    · subst e; rw [upd_at]; omega
    · rw [upd_ne _ _ _ _ e]; have := h.rlt i (by omega); have := hb.size; omega
  · have hsz : ((wx.setCell ⟨Q, k * 2, none⟩ (.pointer (some ⟨b, 0, none⟩))).setCell ⟨Q, k * 2 + 1, none⟩ (.slice none 0 0)).heap.size = wx.heap.size := by simp
    rw [hsz]
    by_cases e : i = k
    · subst e; rw [upd_at]; omega
    · rw [upd_ne _ _ _ _ e]; have := h.glt i (by omega); have := hb.size; omega
  · by_cases e : i = k
    · subst e
      rw [upd_at, World.cell?_setCell_other _ _ _ _ (fun e => by have := congrArg Addr.block e; simp at this; omega), World.cell?_setCell_other _ _ _ _ (fun e => by have := congrArg Addr.block e; simp at this; omega)]
      exact hd hdi
    · have h3 := h.rlt i (by omega)
      rw [upd_ne _ _ _ _ e, World.cell?_setCell_other _ _ _ _ (fun e => by have := congrArg Addr.block e; simp at this; omega), World.cell?_setCell_other _ _ _ _ (fun e => by have := congrArg Addr.block e; simp at this; omega),
        hb.cell (p := ⟨rb i, 1, none⟩) h3.2]
      exact h.drop i (by omega) hdi
  · by_cases e : i = k
    · subst e
      rw [upd_at, upd_at, upd_at, upd_at]
      exact ((hk hdi).other _ (by show b ≠ Q; omega) (by show g ≠ Q; omega)).other _ (by show b ≠ Q; omega) (by show g ≠ Q; omega)
    · have h3 := h.rlt i (by omega)
      have h4 := h.glt i (by omega)
      rw [upd_ne _ _ _ _ e, upd_ne _ _ _ _ e, upd_ne _ _ _ _ e, upd_ne _ _ _ _ e]
      exact (((h.keep i (by omega) hdi).below hb h3.2 h4.2).other _ (by show rb i ≠ Q; omega) (by show gb i ≠ Q; omega)).other _ (by show rb i ≠ Q; omega) (by show gb i ≠ Q; omega)

theorem QP.start {wc : World} {N : Nat} {rb gb nn cc ff ll : Nat → Nat} {dr : Nat → Bool} (c : Array Value) (hc : c.size = N * 2) : QP (wc.alloc (.cells c 55)) wc.heap.size N 0 rb gb nn cc ff ll dr := by
  refine ⟨⟨fun i => c[i]?.getD default, ?_, fun i hi => absurd hi (Nat.not_lt_zero _)⟩, fun i hi => absurd hi (Nat.not_lt_zero _), fun i hi => absurd hi (Nat.not_lt_zero _), fun i hi => absurd hi (Nat.not_lt_zero _), fun i hi => absurd hi (Nat.not_lt_zero _)⟩
  have := World.rowIs_alloc wc c 55 (fun i => c[i]?.getD default) (fun i hi => by simp [hi])
  rw [hc] at this
  exact this

theorem QP.queue {wr : World} {Q N : Nat} {rb gb nn cc ff ll : Nat → Nat} {dr : Nat → Bool} (h : QP wr Q N N rb gb nn cc ff ll dr) (hN : N ≤ 4096) : Queue wr Q N rb gb nn cc ff ll dr := by
  obtain ⟨f, hf, hv⟩ := h.row
  exact ⟨hN, fun i hi => by rw [hf.cell (by omega), (hv i hi).1], fun i hi => by rw [hf.cell (by omega), (hv i hi).2], fun i hi => (h.rlt i hi).2, fun i hi => (h.glt i hi).2, h.drop, h.keep⟩

/-- 'make' of elements of two cells. -/
theorem make_pending (n : Nat) (hn : n ≤ 4096) (w : World) : (Instr.makeSlice 44 (.int .i64 (n : Int)) (.int .i64 (n : Int))).run Yba.prog w = .ok (.slice (some ⟨w.heap.size, 0, none⟩) n n) (w.alloc (.cells (madeCells #[.pointer none, .slice none 0 0] (n * 2)) 55)) := by
  obtain ⟨i, hi, hz, hsi, hby⟩ := info_parts Yba.info55
  have hr := run_make (P := Yba.prog) w 44 55 i _ Yba.underlying44 hi hz .i64 .i64 n n (by omega) (Int.le_refl _) (by rw [hby]; omega) (by omega)
  simp only [Int.toNat_natCast, hsi] at hr
  exact hr

/-- A Records whose places have been stored. -/
theorem Rec.made {wx : World} {b g n c f l : Nat} (f63 : f < 9223372036854775808) (l64 : l < 18446744073709551616) (hlen : (plc f l).length = n) (cap : n ≤ c) (arr : Array Value) (hb : wx.heap[b]? = some (.cells arr 50 (0, 0))) (h4 : arr.size = 4) (h3 : arr[3]? = some (.int .i64 0))
    (hby : Byts wx g 0 (plc f l)) (hne : g ≠ b) : Rec (wx.setCell ⟨b, 1, none⟩ (.slice (some ⟨g, 0, none⟩) n c)) b g n c f l := by
  have hc1 : ∃ v, wx.cell? ⟨b, 1, none⟩ = some v := by
    rw [cell_of_row _ _ _ _ _ _ hb]
    exact ⟨arr[1]'(by omega), by simp [h4]⟩
  obtain ⟨v, hv⟩ := hc1
  refine ⟨f63, l64, hlen, World.cell?_setCell_same _ _ _ hv, ?_, fun j hj => ?_, cap⟩
  · rw [World.cell?_setCell_other _ _ _ _ (fun e => by have := congrArg Addr.off e; simp at this), cell_of_row _ _ _ _ _ _ hb]
    exact h3
  · rw [World.cell?_setCell_other _ _ _ _ (fun e => hne (by have := congrArg Addr.block e; simp at this; omega))]
    exact hby j hj

/-- The k-th place of the queue can be written. -/
theorem QP.spot {wr wx : World} {Q N k : Nat} {rb gb nn cc ff ll : Nat → Nat} {dr : Nat → Bool} (h : QP wr Q N k rb gb nn cc ff ll dr) (hk : k < N) (hb : Below wr.heap.size wr wx) :
    (∃ v, wx.cell? ⟨Q, k * 2, none⟩ = some v) ∧ (∃ v, wx.cell? ⟨Q, k * 2 + 1, none⟩ = some v) ∧ wx.frozen? ⟨Q, k * 2, none⟩ = false ∧ wx.frozen? ⟨Q, k * 2 + 1, none⟩ = false := by
  obtain ⟨f, hf, _⟩ := h.row
  have hf' := hf.of_block (hb.block Q hf.lt)
  exact ⟨⟨_, hf'.cell (i := k * 2) (by omega)⟩, ⟨_, hf'.cell (i := k * 2 + 1) (by omega)⟩, hf'.frozen _, hf'.frozen _⟩

theorem QP.spot2 {wr : World} {Q N k : Nat} {rb gb nn cc ff ll : Nat → Nat} {dr : Nat → Bool} (h : QP wr Q N k rb gb nn cc ff ll dr) (hk : k < N) :
    (∃ v, ∀ o p, ((wr.alloc o).alloc p).cell? ⟨Q, k * 2, none⟩ = some v) ∧ (∃ v, ∀ o p, ((wr.alloc o).alloc p).cell? ⟨Q, k * 2 + 1, none⟩ = some v) ∧ (∀ o p, ((wr.alloc o).alloc p).frozen? ⟨Q, k * 2, none⟩ = false) ∧ ∀ o p, ((wr.alloc o).alloc p).frozen? ⟨Q, k * 2 + 1, none⟩ = false := by
  obtain ⟨f, hf, _⟩ := h.row
  exact ⟨⟨_, fun o p => ((hf.alloc o).alloc p).cell (i := k * 2) (by omega)⟩, ⟨_, fun o p => ((hf.alloc o).alloc p).cell (i := k * 2 + 1) (by omega)⟩, fun o p => ((hf.alloc o).alloc p).frozen _, fun o p => ((hf.alloc o).alloc p).frozen _⟩

theorem kept_step {wr w5 : World} {A X : Obj} {arr : Array Value} (h4 : arr.size = 4) (h3 : arr[3]? = some (.int .i64 0)) (bel5 : Below (((wr.alloc A).alloc (.cells arr 50)).alloc X).drew.heap.size (((wr.alloc A).alloc (.cells arr 50)).alloc X).drew w5)
    {g c f l : Nat} (hf : f < 9223372036854775808) (hl : l < 18446744073709551616) (hg1 : (((wr.alloc A).alloc (.cells arr 50)).alloc X).drew.heap.size ≤ g) (hby : Byts w5 g 0 (plc f l)) (hcap : (plc f l).length ≤ c) :
    Below wr.heap.size wr (w5.setCell ⟨wr.heap.size + 1, 1, none⟩ (.slice (some ⟨g, 0, none⟩) (plc f l).length c)) ∧ wr.heap.size + 1 < w5.heap.size ∧ wr.heap.size ≤ g ∧
      Rec (w5.setCell ⟨wr.heap.size + 1, 1, none⟩ (.slice (some ⟨g, 0, none⟩) (plc f l).length c)) (wr.heap.size + 1) g (plc f l).length c f l := by
  have hs : (((wr.alloc A).alloc (.cells arr 50)).alloc X).drew.heap.size = wr.heap.size + 3 := by simp
  have hz := bel5.size
  rw [hs] at hz hg1
  have b1 : Below wr.heap.size wr (((wr.alloc A).alloc (.cells arr 50)).alloc X).drew := ((((Below.refl _ _).alloc (Nat.le_refl _) _).alloc (by simp) _).alloc (by simp; omega) _).drew
  refine ⟨(b1.trans (bel5.mono (by rw [hs]; omega))).setCell (by show wr.heap.size ≤ wr.heap.size + 1; omega) _, by omega, by omega, Rec.made hf hl rfl hcap arr ?_ h4 h3 hby (by omega)⟩
  rw [bel5.block _ (by rw [hs]; omega)]
  show (((wr.alloc A).alloc (.cells arr 50)).alloc X).heap[wr.heap.size + 1]? = _
  rw [Below.heap_alloc _ _ _ (by simp)]
  have := heap_alloc_new (wr.alloc A) (.cells arr 50)
  simpa using this

/-- The cells of the queue. -/
def qf (rb : Nat → Nat) (i : Nat) : Value := if i % 2 = 0 then .pointer (some ⟨rb (i / 2), 0, none⟩) else .slice none 0 0
theorem qf_one (rb : Nat → Nat) (i : Nat) : (qf rb i).oneCell' = true := by unfold qf; split <;> rfl
theorem Queue.qf {w : World} {Q N : Nat} {rb gb nn cc ff ll : Nat → Nat} {dr : Nat → Bool} (h : Queue w Q N rb gb nn cc ff ll dr) (j : Nat) (hj : j < N * 2) : w.cell? ((⟨Q, 0, none⟩ : Addr).add j) = some (qf rb j) := by
  rw [addr_add, Nat.zero_add]
  unfold Ybulkdhhq.qf
  split
  · rename_i e
    have := h.ptr (j / 2) (by omega)
    rw [show j / 2 * 2 = j by omega] at this
    exact this
  · rename_i e
    have := h.nul (j / 2) (by omega)
    rw [show j / 2 * 2 + 1 = j by omega] at this
    exact this

/-- An index, -1 for none. -/
def oI : Option Nat → Int
  | none => -1
  | some c => c

theorem Fill.set {wr : World} {b : Nat} {t : TypeId} {n k : Nat} {f : Nat → Value} (h : Fill wr b t n k f) (v : Value) : Fill (wr.setCell ⟨b, k, none⟩ v) b t n k f := by
  obtain ⟨g, hg, hf⟩ := h
  refine ⟨_, hg.set k v, fun j hj => ?_⟩
  rw [if_neg (by omega)]
  exact hf j hj

/-- Which segment the i-th record of the law wants, said of the law's own numbers. -/
theorem want_dropped (base : Nat → Int) (nb : Nat) (ff ll : Nat → Nat) (dr : Nat → Bool) (i : Nat) (h : dr i = true) : wantF base nb ff ll dr i = none := by unfold wantF; rw [h]; rfl
theorem want_kept (base : Nat → Int) (nb : Nat) (fi la : Nat → Int) (dr : Nat → Bool) (i : Nat) (h : dr i = false) (hf : -9223372036854775808 ≤ fi i ∧ fi i ≤ 9223372036854775807) (hl : -9223372036854775808 ≤ la i ∧ la i ≤ 9223372036854775807) :
    wantF base nb (fun i => (fstI (fi i)).toNat) (fun i => (IntKind.u64.wrap (la i)).toNat) dr i = win base nb (fstI (fi i)) (la i) := by
  unfold wantF
  rw [h]
  show win base nb (((fstI (fi i)).toNat : Nat) : Int) (wrap64 (((IntKind.u64.wrap (la i)).toNat : Nat) : Int)) = _
  rw [last_back _ hl.1 hl.2, Int.toNat_of_nonneg (fstI_bd _ hf.1 hf.2).1]
theorem oI_bd (base : Nat → Int) (f : Int) (n : Nat) : -1 ≤ oI (kk base f n) ∧ oI (kk base f n) < n := by
  cases h : kk base f n with
  | none => simp [oI]; omega
  | some k => have := kk_lt base f n k h; simp [oI]; omega

theorem Fill.step' {wr : World} {b : Nat} {t : TypeId} {n k : Nat} {f : Nat → Value} (h : Fill wr b t n k f) {v : Value} (hv : f k = v) : Fill (wr.setCell ⟨b, k, none⟩ v) b t n (k + 1) f := by
  subst hv; exact h.step
theorem kk_succ (base : Nat → Int) (f : Int) (n : Nat) : kk base f (n + 1) = if base n ≤ f then some n else kk base f n := rfl
theorem win_none {base : Nat → Int} {nb : Nat} {f l : Int} (h : kk base f nb = none) : win base nb f l = none := by unfold win; rw [h]
theorem win_some {base : Nat → Int} {nb : Nat} {f l : Int} {k : Nat} (h : kk base f nb = some k) (h2 : l < endOf base nb k) : win base nb f l = some k := by unfold win; rw [h]; simp [h2]
theorem win_past {base : Nat → Int} {nb : Nat} {f l : Int} {k : Nat} (h : kk base f nb = some k) (h2 : ¬ l < endOf base nb k) : win base nb f l = none := by unfold win; rw [h]; simp [h2]

theorem scan_zero (want : Nat → Option Nat) (i : Nat) (s : Option Nat) : scan want 0 i s = (s, i) := rfl
theorem scan_none {want : Nat → Option Nat} {m i : Nat} {s : Option Nat} (h : want i = none) : scan want (m + 1) i s = scan want m (i + 1) s := by rw [scan, h]
theorem scan_first {want : Nat → Option Nat} {m i c : Nat} (h : want i = some c) : scan want (m + 1) i none = scan want m (i + 1) (some c) := by rw [scan, h]
theorem scan_same {want : Nat → Option Nat} {m i c : Nat} (h : want i = some c) : scan want (m + 1) i (some c) = scan want m (i + 1) (some c) := by rw [scan, h]; simp
theorem scan_stop {want : Nat → Option Nat} {m i c d : Nat} (h : want i = some c) (e : c ≠ d) : scan want (m + 1) i (some d) = (some d, i) := by rw [scan, h]; simp [e]

/-- Where the run ends if nothing stops it. -/
def stop0 (nr N0 : Nat) : Int := if N0 < nr then (nr : Int) else (N0 : Int)
theorem stop0_lt {nr N0 : Nat} (h : N0 < nr) : stop0 nr N0 = nr := by unfold stop0; rw [if_pos h]
theorem stop0_ge {nr N0 : Nat} (h : ¬ N0 < nr) : stop0 nr N0 = N0 := by unfold stop0; rw [if_neg h]

theorem scan_lt (want : Nat → Option Nat) (nb : Nat) (hw : ∀ i k, want i = some k → k < nb) : ∀ (m i : Nat) (s : Option Nat), (∀ k, s = some k → k < nb) → ∀ k, (scan want m i s).1 = some k → k < nb
  | 0, i, s, hs, k, h => hs k h
  | m + 1, i, s, hs, k, h => by
    rw [scan] at h
    split at h
    · exact scan_lt want nb hw m (i + 1) s hs k h
    · rename_i c hc
      split at h
      · exact scan_lt want nb hw m (i + 1) (some c) (fun k' h' => by simp at h'; subst h'; exact hw i _ hc) k h
      · rename_i e
        split at h
        · exact scan_lt want nb hw m (i + 1) (some e) hs k h
        · exact hs k h

/-- 'p != p' for a pointer. -/
theorem neq_same38 (a : Addr) (w : World) : (binOp .neq 38 (.pointer (some a)) (.pointer (some a))).run Yba.prog w = .ok (.bool false) w := by
  obtain ⟨t, ht, hs⟩ := Option.map_eq_some_iff.1 Yba.info43
  exact run_neq_ptr_same a w Yba.underlying38 ht
theorem Yba.info50 : (Yba.prog.info? 50).map (fun i => decide (i.size ≠ 0)) = some true := by kernel_rfl
theorem neq_same47 (a : Addr) (w : World) : (binOp .neq 47 (.pointer (some a)) (.pointer (some a))).run Yba.prog w = .ok (.bool false) w := by
  obtain ⟨t, ht, hs⟩ := Option.map_eq_some_iff.1 Yba.info50
  exact run_neq_ptr_same a w Yba.underlying47 ht

theorem conv_byts {w : World} {g c : Nat} {l : List UInt8} (h : Byts w g 0 l) : (convert 23 9 (.slice (some ⟨g, 0, none⟩) l.length c)).run Yba.prog w = .ok (.string (strOfNums (l.map fun b => (b.toNat : Int)))) w :=
  run_convert_bytes_arg (P := Yba.prog) w 23 5 Yba.underlying23 Yba.underlying5 g 0 l.length c (l.map fun b => (b.toNat : Int)) (by simp) (fun i hi => by rw [h i hi]; simp [hi]) 9 Yba.underlying9

theorem byts_after {wr W w5 : World} {g : Nat} {l : List UInt8} (h : Byts wr g 0 l) (hW : ∀ p v, wr.cell? p = some v → W.cell? p = some v) (bel : Below W.heap.size W w5) (hg : g < W.heap.size) : Byts w5 g 0 l := fun j hj => by
  rw [bel.cell (p := ⟨g, 0 + j, none⟩) hg]; exact hW _ _ (h j hj)

theorem cell_dr {w : World} {p : Addr} {v : Value} (n : Nat) (h : w.cell? p = some v) : (w.drewN n).cell? p = some v := h
theorem byts_way {wr w5 : World} {A X : Obj} {n g : Nat} {l : List UInt8} (h : Byts wr g 0 l) (hg : g < wr.heap.size) (bel : Below (((wr.alloc A).drewN n).alloc X).heap.size (((wr.alloc A).drewN n).alloc X) w5) : Byts w5 g 0 l :=
  byts_after h (fun _ _ h => cell_al _ (cell_dr n (cell_al _ h))) bel (by
    have : (((wr.alloc A).drewN n).alloc X).heap.size = wr.heap.size + 2 := by
      rw [World.size_alloc]
      show (wr.alloc A).heap.size + 1 = _
      rw [World.size_alloc]
    omega)
theorem below_way {w8 wr w5 : World} {A X : Obj} {n B : Nat} (h : Below B w8 wr) (hB : B ≤ wr.heap.size) (bel : Below (((wr.alloc A).drewN n).alloc X).heap.size (((wr.alloc A).drewN n).alloc X) w5) : Below B w8 w5 := by
  have hs : ((wr.alloc A).drewN n).heap.size = wr.heap.size + 1 := by
    show (wr.alloc A).heap.size = _
    rw [World.size_alloc]
  have h2 : Below B w8 (((wr.alloc A).drewN n).alloc X) := (below_drewN (h.alloc hB _) n).alloc (by omega) _
  exact h2.trans (bel.mono (by rw [World.size_alloc]; omega))
end Go.Proofs.Ybulkdhhq
