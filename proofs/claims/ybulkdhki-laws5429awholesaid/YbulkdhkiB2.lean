/-
  (keptCopy).forget (13): one walk a case.
-/
import Derived.Test.YbulkdhkiB1
import Derived.Deep.QuietTactic
import Derived.BigQuiet
import Derived.RegionTactic
import Derived.Deep.RegionWith
import Derived.Deep.RegionHeld
import Derived.Deep.Light
namespace Go.Proofs.Ybulkdhki
open Go.RowKit

theorem shape_alloc (w : World) (o : Obj) {b : Nat} {x} (h : w.shape? b = some x) : (w.alloc o).shape? b = some x := by
  have hb : b < w.heap.size := by
    unfold World.shape? at h
    apply Decidable.byContradiction
    intro hn
    have h2 : w.heap[b]? = none := Array.getElem?_eq_none (by omega)
    rw [h2] at h
    exact absurd h (by simp)
  have e : (w.alloc o).heap[b]? = w.heap[b]? := by
    show (w.heap.push o)[b]? = _
    rw [Array.getElem?_push_lt hb, Array.getElem?_eq_getElem hb]
  unfold World.shape? at h ⊢
  rw [e]
  exact h
theorem Fits.alloc {w : World} {t n x} (h : Fits w t n x) (o : Obj) : Fits (w.alloc o) t n x := fun a ha => by
  obtain ⟨b, e, hs, hn⟩ := h a ha
  exact ⟨b, e, shape_alloc w o hs, hn⟩
theorem Fits.none {w : World} {t n} : Fits w t n .none := fun _ ha => nomatch ha

def box (R : Nat) (sl tk sz : Int) : Obj := .cells #[.pointer (some ⟨R, 0, none⟩), .int .i64 sl, .int .u64 tk, .int .i64 sz] 119

set_option maxHeartbeats 800000 in
set_option maxRecDepth 100000 in
theorem forget_form_nil (R : Nat) (tk sz : Int) (w : World) (hc : w.cell? ⟨R, 4, none⟩ = some (.pointer none)) :
    Calls Yba.prog 13 #[.agg #[.pointer (some ⟨R, 0, none⟩), .int .i64 (-1), .int .u64 tk, .int .i64 sz]] w fun e w' => e = .returned (.tuple #[]) ∧ ∃ q, w' = (w.alloc (box R (-1) tk sz)).drewN q := by
  have hR : R < w.heap.size := block_lt_of_cell hc
  have g : ∀ o, (w.alloc o).cell? ⟨R, 4, none⟩ = some (.pointer none) := fun o => by rw [World.cell?_alloc_lt _ _ _ (by exact hR)]; exact hc
  go_enter Yba.func13, Yba.ntmps13
  go_wp2_with fail
  refine (loadF R 4 none _ (by exact g _) Fits.none).mono ?_
  rintro e w' ⟨rfl, rfl⟩
  go_wp2
  go_quiet (fail)
  go_wp2
  refine bodyPost_ret (results_none rfl _ _ _) rfl ?_
  exact ⟨rfl, _, rfl⟩

set_option maxHeartbeats 800000 in
set_option maxRecDepth 100000 in
theorem forget_form_miss (R F : Nat) (tk sz t : Int) (w : World) (hc : w.cell? ⟨R, 4, none⟩ = some (.pointer (some ⟨F, 0, none⟩))) (hs : w.shape? F = some (116, 34)) (ht : w.cell? ⟨F, 33, none⟩ = some (.int .u64 t)) (hne : ¬ t = tk) :
    Calls Yba.prog 13 #[.agg #[.pointer (some ⟨R, 0, none⟩), .int .i64 (-1), .int .u64 tk, .int .i64 sz]] w fun e w' => e = .returned (.tuple #[]) ∧ ∃ q, w' = (w.alloc (box R (-1) tk sz)).drewN q := by
  have hR : R < w.heap.size := block_lt_of_cell hc
  have hF : F < w.heap.size := block_lt_of_cell ht
  have g : ∀ o, (w.alloc o).cell? ⟨R, 4, none⟩ = some (.pointer (some ⟨F, 0, none⟩)) := fun o => by rw [World.cell?_alloc_lt _ _ _ (by exact hR)]; exact hc
  have g2 : ∀ o, (w.alloc o).cell? ⟨F, 33, none⟩ = some (.int .u64 t) := fun o => by rw [World.cell?_alloc_lt _ _ _ (by exact hF)]; exact ht
  have fx : Fits w 116 34 (some ⟨F, 0, none⟩) := fun a ha => ⟨F, by simpa using ha.symm, hs, by omega⟩
  go_enter Yba.func13, Yba.ntmps13
  go_wp2_with fail
  refine (loadF R 4 _ _ (by exact g _) (fx.alloc _)).mono ?_
  rintro e w' ⟨rfl, rfl⟩
  go_wp2
  go_quiet (fail)
  go_wp2
  refine bodyPost_ret (results_none rfl _ _ _) rfl ?_
  exact ⟨rfl, _, rfl⟩

set_option maxHeartbeats 800000 in
set_option maxRecDepth 100000 in
theorem forget_form_hit (R F : Nat) (tk sz : Int) (w : World) (hc : w.cell? ⟨R, 4, none⟩ = some (.pointer (some ⟨F, 0, none⟩))) (hz : w.frozen? ⟨R, 4, none⟩ = false) (hs : w.shape? F = some (116, 34)) (ht : w.cell? ⟨F, 33, none⟩ = some (.int .u64 tk)) :
    Calls Yba.prog 13 #[.agg #[.pointer (some ⟨R, 0, none⟩), .int .i64 (-1), .int .u64 tk, .int .i64 sz]] w fun e w' => e = .returned (.tuple #[]) ∧ ∃ q, w' = ((w.alloc (box R (-1) tk sz)).drewN q).setCell ⟨R, 4, none⟩ (.pointer none) := by
  have hR : R < w.heap.size := block_lt_of_cell hc
  have hF : F < w.heap.size := block_lt_of_cell ht
  have g : ∀ o, (w.alloc o).cell? ⟨R, 4, none⟩ = some (.pointer (some ⟨F, 0, none⟩)) := fun o => by rw [World.cell?_alloc_lt _ _ _ (by exact hR)]; exact hc
  have g3 : ∀ o, (w.alloc o).frozen? ⟨R, 4, none⟩ = false := fun o => by rw [World.frozen?_alloc_past _ _ _ (by exact hR)]; exact hz
  have g2 : ∀ o, (w.alloc o).cell? ⟨F, 33, none⟩ = some (.int .u64 tk) := fun o => by rw [World.cell?_alloc_lt _ _ _ (by exact hF)]; exact ht
  have fx : Fits w 116 34 (some ⟨F, 0, none⟩) := fun a ha => ⟨F, by simpa using ha.symm, hs, by omega⟩
  go_enter Yba.func13, Yba.ntmps13
  go_wp2_with fail
  refine (loadF R 4 _ _ (by exact g _) (fx.alloc _)).mono ?_
  rintro e w' ⟨rfl, rfl⟩
  go_wp2
  go_quiet (fail)
  go_wp2_with fail
  refine (storeF R 4 none _ _ (by exact g _) (by exact g3 _) Fits.none).mono ?_
  rintro e w' ⟨rfl, rfl⟩
  go_wp2
  refine bodyPost_ret (results_none rfl _ _ _) rfl ?_
  exact ⟨rfl, _, rfl⟩

set_option maxHeartbeats 800000 in
set_option maxRecDepth 100000 in
theorem forget_slot_nil (R S n s : Nat) (tk sz : Int) (w : World) (hn : s < n) (hl : w.cell? ⟨R, 2, none⟩ = some (.slice (some ⟨S, 0, none⟩) n n)) (hc : w.cell? ⟨S, s * 2 + 1, none⟩ = some (.pointer none)) :
    Calls Yba.prog 13 #[.agg #[.pointer (some ⟨R, 0, none⟩), .int .i64 (s : Int), .int .u64 tk, .int .i64 sz]] w fun e w' => e = .returned (.tuple #[]) ∧ ∃ q, w' = (w.alloc (box R s tk sz)).drewN q := by
  have hR : R < w.heap.size := block_lt_of_cell hl
  have hS : S < w.heap.size := block_lt_of_cell hc
  have hm : ((s : Int) == -1) = false := by rw [beq_eq_false_iff_ne]; omega
  have g0 : ∀ o, (w.alloc o).cell? ⟨R, 2, none⟩ = some (.slice (some ⟨S, 0, none⟩) n n) := fun o => by rw [World.cell?_alloc_lt _ _ _ (by exact hR)]; exact hl
  have g : ∀ o, (w.alloc o).cell? ⟨S, s * 2 + 1, none⟩ = some (.pointer none) := fun o => by rw [World.cell?_alloc_lt _ _ _ (by exact hS)]; exact hc
  have hz : (s : Int) < n := by omega
  go_enter Yba.func13, Yba.ntmps13
  go_wp2
  go_quiet ((go_at_call 15; exact Calls.quiet_of_same (loadS S (s * 2 + 1) none _ (by exact g _) Fits.none)))
  go_wp2
  go_quiet (fail)
  go_wp2
  go_end0
  exact ⟨rfl, _, by simp only [World.drewN_drewN]; rfl⟩

set_option maxHeartbeats 800000 in
set_option maxRecDepth 100000 in
theorem forget_slot_miss (R S F n s : Nat) (tk sz t : Int) (w : World) (hn : s < n) (hl : w.cell? ⟨R, 2, none⟩ = some (.slice (some ⟨S, 0, none⟩) n n)) (hc : w.cell? ⟨S, s * 2 + 1, none⟩ = some (.pointer (some ⟨F, 0, none⟩)))
    (hs : w.shape? F = some (111, 66)) (ht : w.cell? ⟨F, 65, none⟩ = some (.int .u64 t)) (hne : ¬ t = tk) :
    Calls Yba.prog 13 #[.agg #[.pointer (some ⟨R, 0, none⟩), .int .i64 (s : Int), .int .u64 tk, .int .i64 sz]] w fun e w' => e = .returned (.tuple #[]) ∧ ∃ q, w' = (w.alloc (box R s tk sz)).drewN q := by
  have hR : R < w.heap.size := block_lt_of_cell hl
  have hS : S < w.heap.size := block_lt_of_cell hc
  have hF : F < w.heap.size := block_lt_of_cell ht
  have hm : ((s : Int) == -1) = false := by rw [beq_eq_false_iff_ne]; omega
  have g0 : ∀ o, (w.alloc o).cell? ⟨R, 2, none⟩ = some (.slice (some ⟨S, 0, none⟩) n n) := fun o => by rw [World.cell?_alloc_lt _ _ _ (by exact hR)]; exact hl
  have g : ∀ o, (w.alloc o).cell? ⟨S, s * 2 + 1, none⟩ = some (.pointer (some ⟨F, 0, none⟩)) := fun o => by rw [World.cell?_alloc_lt _ _ _ (by exact hS)]; exact hc
  have g2 : ∀ o, (w.alloc o).cell? ⟨F, 65, none⟩ = some (.int .u64 t) := fun o => by rw [World.cell?_alloc_lt _ _ _ (by exact hF)]; exact ht
  have fx : Fits w 111 66 (some ⟨F, 0, none⟩) := fun a ha => ⟨F, by simpa using ha.symm, hs, by omega⟩
  have hz : (s : Int) < n := by omega
  go_enter Yba.func13, Yba.ntmps13
  go_wp2
  go_quiet ((go_at_call 15; exact Calls.quiet_of_same (loadS S (s * 2 + 1) _ _ (by exact g _) (fx.alloc _))))
  go_wp2
  go_quiet (fail)
  go_wp2
  go_end0
  exact ⟨rfl, _, by simp only [World.drewN_drewN]; rfl⟩

set_option maxHeartbeats 800000 in
set_option maxRecDepth 100000 in
theorem forget_slot_hit (R S F n s : Nat) (tk sz : Int) (w : World) (hn : s < n) (hl : w.cell? ⟨R, 2, none⟩ = some (.slice (some ⟨S, 0, none⟩) n n)) (hc : w.cell? ⟨S, s * 2 + 1, none⟩ = some (.pointer (some ⟨F, 0, none⟩))) (hz0 : w.frozen? ⟨S, s * 2 + 1, none⟩ = false)
    (hs : w.shape? F = some (111, 66)) (ht : w.cell? ⟨F, 65, none⟩ = some (.int .u64 tk)) :
    Calls Yba.prog 13 #[.agg #[.pointer (some ⟨R, 0, none⟩), .int .i64 (s : Int), .int .u64 tk, .int .i64 sz]] w fun e w' => e = .returned (.tuple #[]) ∧ ∃ q, w' = ((w.alloc (box R s tk sz)).drewN q).setCell ⟨S, s * 2 + 1, none⟩ (.pointer none) := by
  have hR : R < w.heap.size := block_lt_of_cell hl
  have hS : S < w.heap.size := block_lt_of_cell hc
  have hF : F < w.heap.size := block_lt_of_cell ht
  have hm : ((s : Int) == -1) = false := by rw [beq_eq_false_iff_ne]; omega
  have g0 : ∀ o, (w.alloc o).cell? ⟨R, 2, none⟩ = some (.slice (some ⟨S, 0, none⟩) n n) := fun o => by rw [World.cell?_alloc_lt _ _ _ (by exact hR)]; exact hl
  have g : ∀ o, (w.alloc o).cell? ⟨S, s * 2 + 1, none⟩ = some (.pointer (some ⟨F, 0, none⟩)) := fun o => by rw [World.cell?_alloc_lt _ _ _ (by exact hS)]; exact hc
  have g3 : ∀ o, (w.alloc o).frozen? ⟨S, s * 2 + 1, none⟩ = false := fun o => by rw [World.frozen?_alloc_past _ _ _ (by exact hS)]; exact hz0
  have g2 : ∀ o, (w.alloc o).cell? ⟨F, 65, none⟩ = some (.int .u64 tk) := fun o => by rw [World.cell?_alloc_lt _ _ _ (by exact hF)]; exact ht
  have fx : Fits w 111 66 (some ⟨F, 0, none⟩) := fun a ha => ⟨F, by simpa using ha.symm, hs, by omega⟩
  have hz : (s : Int) < n := by omega
  go_enter Yba.func13, Yba.ntmps13
  go_wp2
  go_quiet ((go_at_call 15; exact Calls.quiet_of_same (loadS S (s * 2 + 1) _ _ (by exact g _) (fx.alloc _))))
  go_wp2
  go_quiet (fail)
  go_wp2
  go_region_with (go_at_call 11; refine (storeS S (s * 2 + 1) none _ _ (by exact g _) (by exact g3 _) Fits.none).mono ?_; rintro e w' ⟨rfl, rfl⟩)
  all_goals
    go_wp2
    go_end0
    exact ⟨rfl, _, rfl⟩
end Go.Proofs.Ybulkdhki
