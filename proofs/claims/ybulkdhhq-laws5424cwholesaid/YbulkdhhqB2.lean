/-
  The walk of journal.LawS5424BWhole (function 3), out of the contracts of its callees (YbulkdhhqB).
-/
import Derived.Test.YbulkdhhqB
namespace Go.Proofs.Ybulkdhhq
open Go.RowKit

theorem Yba.info3 : (Yba.prog.info? 3).map (fun i => (i.zero, i.size, i.bytes)) = some (some (.int .i64 0), 1, 8) := by kernel_rfl
theorem Yba.info5 : (Yba.prog.info? 5).map (fun i => (i.zero, i.size, i.bytes)) = some (some (.int .u8 0), 1, 1) := by kernel_rfl

theorem hide {p : Prop} (h : p) : Hid p := h
/-- Row b holds the first k of the numbers f. -/
def Fill (wr : World) (b : Nat) (t : TypeId) (n k : Nat) (f : Nat → Value) : Prop := ∃ g, wr.rowIs b t n g ∧ ∀ j, j < k → g j = f j

theorem Fill.start {w : World} {z : Value} {n : Nat} {t : TypeId} {f : Nat → Value} : Fill (w.alloc (.cells (madeCells #[z] n) t)) w.heap.size t n 0 f :=
  ⟨_, World.rowIs_made w z n t, fun _ h => absurd h (Nat.not_lt_zero _)⟩
theorem Fill.cell {wr : World} {b : Nat} {t : TypeId} {n k : Nat} {f : Nat → Value} (h : Fill wr b t n k f) {i : Nat} (hi : i < n) : ∃ v, wr.cell? ⟨b, i, none⟩ = some v := by
  obtain ⟨g, hg, _⟩ := h
  exact ⟨_, hg.cell hi⟩
theorem Fill.free {wr : World} {b : Nat} {t : TypeId} {n k : Nat} {f : Nat → Value} (h : Fill wr b t n k f) (i : Nat) : wr.frozen? ⟨b, i, none⟩ = false := by
  obtain ⟨g, hg, _⟩ := h
  exact hg.frozen i
theorem Fill.step {wr : World} {b : Nat} {t : TypeId} {n k : Nat} {f : Nat → Value} (h : Fill wr b t n k f) : Fill (wr.setCell ⟨b, k, none⟩ (f k)) b t n (k + 1) f := by
  obtain ⟨g, hg, hf⟩ := h
  refine ⟨_, hg.set k (f k), fun j hj => ?_⟩
  by_cases e : j = k
  · subst e; simp
  · simp only [if_neg e]
    exact hf j (by omega)
theorem Fill.full {wr : World} {b : Nat} {t : TypeId} {n : Nat} {f : Nat → Value} (h : Fill wr b t n n f) : wr.rowIs b t n f := by
  obtain ⟨g, hg, hf⟩ := h
  exact hg.congr hf

/-- The table of starts: a leading 0, then each end in turn. -/
def stz (f : Nat → Int) : Nat → Int
  | 0 => 0
  | j + 1 => f j
def stf (f : Nat → Int) (k : Nat) : Value := .int .i64 (stz f k)

theorem start_any (bg : Nat) (a : Option Addr) (b off n c k : Nat) (f : Nat → Int) (w : World) (hk : k ≤ n) (hn : n ≤ 2097152) (ha : 0 < n → a = some ⟨b, off, none⟩) (hg : w.cell? ⟨bg, 1, none⟩ = some (.slice a n c)) (hc : ∀ j, j < n → w.cell? ⟨b, off + j, none⟩ = some (.int .i64 (f j))) :
    Calls Yba.prog 5 #[.pointer (some ⟨bg, 0, none⟩), .int .i64 (k : Int)] w fun e w' => e = .returned (.int .i64 (stz f k)) ∧ w' = w := by
  cases k with
  | zero => exact start_zero bg w
  | succ m =>
    obtain rfl := ha (by omega)
    have h := start_succ bg b off n c m (f m) w (by omega) hn hg (hc m (by omega))
    have e : (((m + 1 : Nat) : Int)) = (m : Int) + 1 := by omega
    rw [e]
    exact h

theorem starts_begin (wr : World) (n : Nat) (f : Nat → Int) (b : Nat) (hb : wr.heap.size = b) :
    Fill (wr.alloc (.cells ((madeCells #[.int .i64 0] (n + 1)).setIfInBounds 0 (.int .i64 0)) 3)) b 3 (n + 1) 1 (stf f) := by
  subst hb
  have h := World.rowIs_alloc wr ((madeCells #[.int .i64 0] (n + 1)).setIfInBounds 0 (.int .i64 0)) 3 (fun _ => .int .i64 0) (fun i hi => by
    simp only [Array.size_setIfInBounds, size_madeCells] at hi
    rw [Array.getElem?_setIfInBounds]
    split
    · simp [size_madeCells]
    · simp [madeCells, hi, Nat.mod_one])
  simp only [Array.size_setIfInBounds, size_madeCells] at h
  refine ⟨_, h, fun j hj => ?_⟩
  obtain rfl : j = 0 := by omega
  rfl

theorem kOf (a : Int) (n : Nat) (hn : n ≤ 1048576) : ∃ k : Nat, k ≤ n ∧ wrap64 ((IntKind.u64.wrap a).tmod ((n : Int) + 1)) = (k : Int) := by
  have h0 : 0 ≤ IntKind.u64.wrap a := by rw [IntKind.wrap_u64]; omega
  rw [Int.tmod_eq_emod_of_nonneg h0]
  generalize IntKind.u64.wrap a = x at h0 ⊢
  have h1 := Int.emod_nonneg x (b := (n : Int) + 1) (by omega)
  have h2 := Int.emod_lt_of_pos x (b := (n : Int) + 1) (by omega)
  generalize x % ((n : Int) + 1) = y at h1 h2 ⊢
  refine ⟨y.toNat, by omega, ?_⟩
  rw [IntWalk.wrap64_in y ⟨by omega, by omega⟩]
  omega

set_option maxHeartbeats 1600000 in
set_option maxRecDepth 100000 in
theorem lawB_any (a0 a1 : Option Addr) (b0 o0 n0 c0 b1 o1 n1 c1 : Nat) (f0 f1 : Nat → Int) (a2 : Int) (w : World)
    (h0 : 0 < n0 → a0 = some ⟨b0, o0, none⟩) (h1 : 0 < n1 → a1 = some ⟨b1, o1, none⟩)
    (g0 : ∀ j, j < n0 → w.cell? ⟨b0, o0 + j, none⟩ = some (.int .i64 (f0 j))) (g1 : ∀ j, j < n1 → w.cell? ⟨b1, o1 + j, none⟩ = some (.int .u8 (f1 j)))
    (s0 : n0 ≤ 1048576) (s1 : n1 ≤ 1048576) :
    Calls Yba.prog 3 #[.slice a0 n0 c0, .slice a1 n1 c1, .int .i64 a2] w fun e w' => e = .returned (.bool true) ∧ Below w.heap.size w w' := by
  have hmk0 := run_make_row' (P := Yba.prog) 22 3 (.int .i64 0) 8 Yba.underlying22 Yba.info3 rfl .i64 .i64 n0 (by omega) (by omega)
  have hmk1 := run_make_row' (P := Yba.prog) 23 5 (.int .u8 0) 1 Yba.underlying23 Yba.info5 rfl .i64 .i64 n1 (by omega) (by omega)
  have hmk2 := run_make_row' (P := Yba.prog) 22 3 (.int .i64 0) 8 Yba.underlying22 Yba.info3 rfl .i64 .i64 (n0 + 1) (by omega) (by omega)
  have nq1 : ∀ w, (binOp .neq 26 (.chan none) (.chan none)).run Yba.prog w = .ok (.bool false) w := fun _ => by kernel_rfl
  have nq2 : ∀ w, (binOp .neq 27 (.slice none 0 0) (.slice none 0 0)).run Yba.prog w = .ok (.bool false) w := fun _ => by kernel_rfl
  have nq3 : ∀ w, (binOp .neq 28 (.slice none 0 0) (.slice none 0 0)).run Yba.prog w = .ok (.bool false) w := fun _ => by kernel_rfl
  have ec : ((n0 + 1 : Nat) : Int) = (n0 : Int) + 1 := by omega
  rw [ec] at hmk2
  clear ec
  go_enter Yba.func3, Yba.ntmps3
  go_wp2
  clear hmk0
  -- the first loop: a copy of ends
  go_loopg [8] n0 (fun g i wr => ∃ k : Nat, k ≤ n0 ∧ g = n0 - k ∧ i = .int .i64 k ∧ wr.heap.size = w.heap.size + 1 ∧ Below w.heap.size w wr ∧ Fill wr w.heap.size 3 n0 k (fun j => .int .i64 (f0 j)))
  case atStart => exact ⟨0, Nat.zero_le _, rfl, rfl, by simp, (Below.refl _ _).alloc (Nat.le_refl _) _, Fill.start⟩
  case round =>
    obtain ⟨k, hk, rfl, rfl, hsz, hbel, hfl⟩ := hrel
    by_cases hlt : k < n0
    · obtain rfl := h0 (by omega)
      have hb0 : b0 < w.heap.size := World.block_lt_of_cell? _ _ (g0 k hlt)
      have r0 : wr.cell? ⟨b0, o0 + k, none⟩ = some (.int .i64 (f0 k)) := by rw [hbel.cell (p := ⟨b0, o0 + k, none⟩) hb0]; exact g0 k hlt
      obtain ⟨v, r1⟩ := hfl.cell hlt
      have r2 := hfl.free k
      have hz : (k : Int) < (n0 : Int) := by omega
      clear hmk1 hmk2
      go_wp2
      go_roundg (n0 - (k + 1))
      case measure => go_light; omega
      case rel => go_light; exact ⟨k + 1, by omega, rfl, by go_num, by simpa using hsz, hbel.setCell (Nat.le_refl _) _, hfl.step⟩
    · obtain rfl : n0 = k := by omega
      have hf0 := hfl.full
      clear hfl hlt hk
      go_wp2
      clear hmk1
      -- the second loop: a copy of records
      go_loopg [10] n1 (fun g i wr => ∃ k : Nat, k ≤ n1 ∧ g = n1 - k ∧ i = .int .i64 k ∧ wr.heap.size = w.heap.size + 2 ∧ Below w.heap.size w wr ∧ wr.rowIs w.heap.size 3 n0 (fun j => .int .i64 (f0 j)) ∧ Fill wr (w.heap.size + 1) 5 n1 k (fun j => .int .u8 (f1 j)))
      case atStart => exact ⟨0, Nat.zero_le _, rfl, rfl, by simp [hsz], hbel.alloc (by omega) _, hf0.alloc _, by rw [← hsz]; exact Fill.start⟩
      case round =>
        clear hsz hbel hf0
        obtain ⟨k, hk, rfl, rfl, hsz, hbel, hf0, hfl⟩ := hrel
        by_cases hlt : k < n1
        · obtain rfl := h1 (by omega)
          have hb1 : b1 < w.heap.size := World.block_lt_of_cell? _ _ (g1 k hlt)
          have r0 : wr.cell? ⟨b1, o1 + k, none⟩ = some (.int .u8 (f1 k)) := by rw [hbel.cell (p := ⟨b1, o1 + k, none⟩) hb1]; exact g1 k hlt
          obtain ⟨v, r1⟩ := hfl.cell hlt
          have r2 := hfl.free k
          have hz : (k : Int) < (n1 : Int) := by omega
          clear hmk2
          go_wp2
          go_roundg (n1 - (k + 1))
          case measure => go_light; omega
          case rel => go_light; exact ⟨k + 1, by omega, rfl, by go_num, by simpa using hsz, hbel.setCell (by show w.heap.size ≤ w.heap.size + 1; omega) _, hf0.setOther (by show w.heap.size ≠ w.heap.size + 1; omega) _, hfl.step⟩
        · obtain rfl : n1 = k := by omega
          have hf1 := hfl.full
          have hst : (madeCells #[.int .i64 0] (n0 + 1))[0]? = some (.int .i64 0) := by simp [madeCells]
          clear hfl hlt hk
          go_wp2
          clear hmk2 hst
          -- the third loop: the table of starts
          go_loopg [12] n0 (fun g i wr => ∃ k : Nat, k ≤ n0 ∧ g = n0 - k ∧ i = .int .i64 k ∧ wr.heap.size = w.heap.size + 3 ∧ Below w.heap.size w wr ∧ wr.rowIs w.heap.size 3 n0 (fun j => .int .i64 (f0 j)) ∧ wr.rowIs (w.heap.size + 1) 5 n1 (fun j => .int .u8 (f1 j)) ∧ Fill wr (w.heap.size + 2) 3 (n0 + 1) (k + 1) (stf f0))
          case atStart => exact ⟨0, Nat.zero_le _, rfl, rfl, by simp [hsz], hbel.alloc (by omega) _, hf0.alloc _, hf1.alloc _, starts_begin _ _ _ _ hsz⟩
          case round =>
            clear hsz hbel hf0 hf1
            obtain ⟨k, hk, rfl, rfl, hsz, hbel, hf0, hf1, hfl⟩ := hrel
            by_cases hlt : k < n0
            · obtain rfl := h0 (by omega)
              have hb0 : b0 < w.heap.size := World.block_lt_of_cell? _ _ (g0 k hlt)
              have r0 : wr.cell? ⟨b0, o0 + k, none⟩ = some (.int .i64 (f0 k)) := by rw [hbel.cell (p := ⟨b0, o0 + k, none⟩) hb0]; exact g0 k hlt
              obtain ⟨v, r1⟩ := hfl.cell (i := k + 1) (by omega)
              have r2 := hfl.free (k + 1)
              have hz : (k : Int) < (n0 : Int) := by omega
              go_wp2
              go_roundg (n0 - (k + 1))
              case measure => go_light; omega
              case rel => go_light; exact ⟨k + 1, by omega, rfl, by go_num, by simpa using hsz, hbel.setCell (by show w.heap.size ≤ w.heap.size + 2; omega) _, hf0.setOther (by show w.heap.size ≠ w.heap.size + 2; omega) _, hf1.setOther (by show w.heap.size + 1 ≠ w.heap.size + 2; omega) _, hfl.step⟩
            · obtain rfl : n0 = k := by omega
              have hst := hfl.full
              clear hfl hlt hk
              go_wp2_with fail
              obtain ⟨k, hk, ek⟩ := kOf a2 n0 s0
              rw [ek]
              clear ek
              -- what stands in the world of the calls
              have X0 : ∀ j, j < n0 → (wr.alloc (.cells #[.slice a1 n1 c1, .slice a0 n0 c0, .chan none, .slice none 0 0, .slice none 0 0] 30)).cell? ⟨b0, o0 + j, none⟩ = some (.int .i64 (f0 j)) := fun j hj => by
                have hb0 : b0 < w.heap.size := World.block_lt_of_cell? _ _ (g0 j hj)
                rw [World.cell?_alloc_lt _ _ _ (by show b0 < wr.heap.size; omega), hbel.cell (p := ⟨b0, o0 + j, none⟩) hb0]; exact g0 j hj
              have X1 : ∀ j, j < n1 → (wr.alloc (.cells #[.slice a1 n1 c1, .slice a0 n0 c0, .chan none, .slice none 0 0, .slice none 0 0] 30)).cell? ⟨b1, o1 + j, none⟩ = some (.int .u8 (f1 j)) := fun j hj => by
                have hb1 : b1 < w.heap.size := World.block_lt_of_cell? _ _ (g1 j hj)
                rw [World.cell?_alloc_lt _ _ _ (by show b1 < wr.heap.size; omega), hbel.cell (p := ⟨b1, o1 + j, none⟩) hb1]; exact g1 j hj
              have Y0 : ∀ j, j < n0 → (wr.alloc (.cells #[.slice a1 n1 c1, .slice a0 n0 c0, .chan none, .slice none 0 0, .slice none 0 0] 30)).cell? ⟨w.heap.size, 0 + j, none⟩ = some (.int .i64 (f0 j)) := fun j hj => by
                rw [Nat.zero_add]; exact (hf0.alloc _).cell hj
              have Y1 : ∀ j, j < n1 → (wr.alloc (.cells #[.slice a1 n1 c1, .slice a0 n0 c0, .chan none, .slice none 0 0, .slice none 0 0] 30)).cell? ⟨w.heap.size + 1, 0 + j, none⟩ = some (.int .u8 (f1 j)) := fun j hj => by
                rw [Nat.zero_add]; exact (hf1.alloc _).cell hj
              have Z : (wr.alloc (.cells #[.slice a1 n1 c1, .slice a0 n0 c0, .chan none, .slice none 0 0, .slice none 0 0] 30)).cell? ⟨w.heap.size + 3, 1, none⟩ = some (.slice a0 n0 c0) := by
                rw [← hsz]; simp
              have q1 : wr.cell? ⟨w.heap.size + 2, k, none⟩ = some (.int .i64 (stz f0 k)) := hst.cell (by omega)
              have hkz : (k : Int) < (n0 : Int) + 1 := by omega
              have hfin : ∀ q, Below w.heap.size w ((wr.alloc (.cells #[.slice a1 n1 c1, .slice a0 n0 c0, .chan none, .slice none 0 0, .slice none 0 0] 30)).drewN q) := fun q => by
                have hb := hbel.alloc (by omega) (.cells #[.slice a1 n1 c1, .slice a0 n0 c0, .chan none, .slice none 0 0, .slice none 0 0] 30)
                exact ⟨hb.os, hb.tape, hb.output, hb.size, hb.block⟩
              have HF := hfin
              clear hfin hbel hst hf0 hf1 g0 g1
              refine (start_any _ _ b0 o0 n0 _ _ f0 _ hk (by omega) h0 Z X0).mono ?_
              rintro e w' ⟨rfl, rfl⟩
              have X0' := hide X0
              have X1' := hide X1
              have Y0' := hide Y0
              have Y1' := hide Y1
              have HF' := hide HF
              clear X0 X1 Y0 Y1 Z HF
              go_wp2_with fail
              refine (same_any _ _ b0 o0 w.heap.size 0 n0 _ _ f0 _ (by omega) h0 (fun _ => rfl) (by exact X0'.out) (by exact Y0'.out)).mono ?_
              rintro e w' ⟨rfl, t1, rfl⟩
              go_wp2_with fail
              refine (sameb_any _ _ b1 o1 (w.heap.size + 1) 0 n1 _ _ f1 _ (by omega) h1 (fun _ => rfl) (by exact X1'.out) (by exact Y1'.out)).mono ?_
              rintro e w' ⟨rfl, t2, rfl⟩
              go_wp2_with fail
              refine (same_any _ _ b0 o0 w.heap.size 0 n0 _ _ f0 _ (by omega) h0 (fun _ => rfl) (by exact X0'.out) (by exact Y0'.out)).mono ?_
              rintro e w' ⟨rfl, t3, rfl⟩
              go_wp2_with fail
              refine (sameb_any _ _ b1 o1 (w.heap.size + 1) 0 n1 _ _ f1 _ (by omega) h1 (fun _ => rfl) (by exact X1'.out) (by exact Y1'.out)).mono ?_
              rintro e w' ⟨rfl, t4, rfl⟩
              go_wp2
              go_ret
              exact ⟨rfl, by have hb := HF'.out 0; exact ⟨hb.os, hb.tape, hb.output, hb.size, hb.block⟩⟩
end Go.Proofs.Ybulkdhhq
