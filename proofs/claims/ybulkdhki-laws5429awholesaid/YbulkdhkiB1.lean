/-
  holdfast.LawS5429BWhole: the atomic methods on her road (9..12, 14..18), in the run of one goroutine: each as a contract with the exact world.
-/
import Derived.Test.YbulkdhkiProg
import Derived.WalkKit
import Derived.WalkSpells
import Derived.WalkLawsBesides
import Derived.KernelRfl
import Derived.Lib.Builder
import Derived.LaidEqlPtr
namespace Go.Proofs.Ybulkdhki
open Go.RowKit

theorem hide {p : Prop} (h : p) : Hid p := h

/-- sync/atomic.LoadPointer: what the cell holds. -/
theorem run_call_loadp {P : Program} {f : FuncId} {fn : Func} (hf : P.funcs[f]? = some fn) (hname : (fn.name == "runtime.NumGoroutine") = false) (hb : fn.body.isNone = true) (hn : Extern.findNext fn = none)
    (he : Extern.find fn = some (Extern.Atomic.loadT .ptr)) {a : Addr} {x : Option Addr} {w : World} (hc : w.cell? a = some (.pointer x)) :
    (callFunc f #[.pointer (some a)]).run P w = .ok (.value (.pointer x)) w := by
  rw [run_callFunc_extern hf hname hb hn he]
  change (Sem.run P (do Extern.Atomic.read .ptr (← asAddr (.pointer (some a)))) w).andThen _ = _
  simp [Extern.Atomic.read, asAddr, hc, Result.andThen]

/-- sync/atomic.StorePointer: the pointer is stored. -/
theorem run_call_storep {P : Program} {f : FuncId} {fn : Func} (hf : P.funcs[f]? = some fn) (hname : (fn.name == "runtime.NumGoroutine") = false) (hb : fn.body.isNone = true) (hn : Extern.findNext fn = none)
    (he : Extern.find fn = some Extern.Atomic.storeT) {a : Addr} {y : Option Addr} {u : Value} {w : World} (hc : w.cell? a = some u) (hz : w.frozen? a = false) :
    (callFunc f #[.pointer (some a), .pointer y]).run P w = .ok (.value (.tuple #[])) (w.setCell a (.pointer y)) := by
  rw [run_callFunc_extern hf hname hb hn he]
  change (Sem.run P (do
    store (← asAddr (.pointer (some a))) (.pointer y) .atomic
    pure Extern.Atomic.none_) w).andThen _ = _
  simp [asAddr, hc, hz, run_store P w a (.pointer y) .atomic rfl, Result.andThen, Extern.Atomic.none_]

/-- nil to the bare pointer type. -/
theorem run_nil_to_unsafe {P : Program} {src dst t : TypeId} (hs : P.underlying src = some (.pointer t)) (hd : P.underlying dst = some .unsafePointer) (w : World) :
    (convert src dst (.pointer none)).run P w = .ok (.pointer none) w := by
  simp [convert, Conv.unsafePointer, run_underlying hs, run_underlying hd]
/-- the bare pointer that is nil to *U. -/
theorem run_nil_from_unsafe {P : Program} {src dst t : TypeId} (hs : P.underlying src = some .unsafePointer) (hd : P.underlying dst = some (.pointer t)) (w : World) :
    (convert src dst (.pointer none)).run P w = .ok (.pointer none) w := by
  simp [convert, Conv.unsafePointer, run_underlying hs, run_underlying hd]

/-- (*atomic.Uint32).Store -/
theorem store32 (b o : Nat) (y : Int) (u : Value) (w : World) (hc : w.cell? ⟨b, o, none⟩ = some u) (hz : w.frozen? ⟨b, o, none⟩ = false) :
    Calls Yba.prog 9 #[.pointer (some ⟨b, o, none⟩), .int .u32 y] w fun e w' => e = .returned (.tuple #[]) ∧ w' = w.setCell ⟨b, o, none⟩ (.int .u32 y) := by
  have hl := run_call_store (P := Yba.prog) Yba.func19 (by kernel_rfl) (by kernel_rfl) (by kernel_rfl) (by kernel_rfl) (k := .u32) (y := y) hc hz
  go_enter Yba.func9, Yba.ntmps9
  go_wp2
  go_end0
  exact ⟨rfl, rfl⟩

/-- (*atomic.Uint64).Store -/
theorem store64 (b o : Nat) (y : Int) (u : Value) (w : World) (hc : w.cell? ⟨b, o, none⟩ = some u) (hz : w.frozen? ⟨b, o, none⟩ = false) :
    Calls Yba.prog 10 #[.pointer (some ⟨b, o, none⟩), .int .u64 y] w fun e w' => e = .returned (.tuple #[]) ∧ w' = w.setCell ⟨b, o, none⟩ (.int .u64 y) := by
  have hl := run_call_store (P := Yba.prog) Yba.func20 (by kernel_rfl) (by kernel_rfl) (by kernel_rfl) (by kernel_rfl) (k := .u64) (y := y) hc hz
  go_enter Yba.func10, Yba.ntmps10
  go_wp2
  go_end0
  exact ⟨rfl, rfl⟩

/-- (*atomic.Uint32).Load -/
theorem load32 (b o : Nat) (y : Int) (w : World) (hc : w.cell? ⟨b, o, none⟩ = some (.int .u32 y)) :
    Calls Yba.prog 17 #[.pointer (some ⟨b, o, none⟩)] w fun e w' => e = .returned (.int .u32 y) ∧ w' = w := by
  have hl := run_call_load (P := Yba.prog) Yba.func24 (by kernel_rfl) (by kernel_rfl) (by kernel_rfl) .u32 (by kernel_rfl) hc
  go_enter Yba.func17, Yba.ntmps17
  go_wp2
  go_ret
  exact ⟨rfl, rfl⟩

/-- (*atomic.Uint64).Load -/
theorem load64 (b o : Nat) (y : Int) (w : World) (hc : w.cell? ⟨b, o, none⟩ = some (.int .u64 y)) :
    Calls Yba.prog 16 #[.pointer (some ⟨b, o, none⟩)] w fun e w' => e = .returned (.int .u64 y) ∧ w' = w := by
  have hl := run_call_load (P := Yba.prog) Yba.func23 (by kernel_rfl) (by kernel_rfl) (by kernel_rfl) .u64 (by kernel_rfl) hc
  go_enter Yba.func16, Yba.ntmps16
  go_wp2
  go_ret
  exact ⟨rfl, rfl⟩

/-- What a pointer in these cells is: nil, or the front of a block of the shape (t, n). -/
def Fits (w : World) (t : TypeId) (n : Nat) (x : Option Addr) : Prop := ∀ a, x = some a → ∃ b, a = ⟨b, 0, none⟩ ∧ w.shape? b = some (t, n) ∧ 0 < n

theorem lies111 : liesAt Yba.prog Yba.prog.depth 111 (66 / Yba.prog.cellsOf 111) 0 111 1 = true := by kernel_rfl
theorem lies116 : liesAt Yba.prog Yba.prog.depth 116 (34 / Yba.prog.cellsOf 116) 0 116 1 = true := by kernel_rfl
theorem Yba.info111 : (Yba.prog.info? 111).map (fun i => decide (i.size ≠ 0)) = some true := by kernel_rfl
theorem Yba.info116 : (Yba.prog.info? 116).map (fun i => decide (i.size ≠ 0)) = some true := by kernel_rfl

theorem to111 {x : Option Addr} {w : World} (hx : Fits w 111 66 x) : (convert 103 89 (.pointer x)).run Yba.prog w = .ok (.pointer x) w := by
  cases x with
  | none => exact run_nil_to_unsafe Yba.underlying103 Yba.underlying89 w
  | some a =>
    obtain ⟨b, rfl, hs, hn⟩ := hx a rfl
    obtain ⟨j, hj, hz⟩ := Option.map_eq_some_iff.1 Yba.info111
    exact Lib.run_to_unsafe w ⟨b, 0, none⟩ Yba.underlying103 Yba.underlying89 hj (by simpa using hz) hs hn
theorem to116 {x : Option Addr} {w : World} (hx : Fits w 116 34 x) : (convert 92 89 (.pointer x)).run Yba.prog w = .ok (.pointer x) w := by
  cases x with
  | none => exact run_nil_to_unsafe Yba.underlying92 Yba.underlying89 w
  | some a =>
    obtain ⟨b, rfl, hs, hn⟩ := hx a rfl
    obtain ⟨j, hj, hz⟩ := Option.map_eq_some_iff.1 Yba.info116
    exact Lib.run_to_unsafe w ⟨b, 0, none⟩ Yba.underlying92 Yba.underlying89 hj (by simpa using hz) hs hn
theorem from111 {x : Option Addr} {w : World} (hx : Fits w 111 66 x) : (convert 89 103 (.pointer x)).run Yba.prog w = .ok (.pointer x) w := by
  cases x with
  | none => exact run_nil_from_unsafe Yba.underlying89 Yba.underlying103 w
  | some a =>
    obtain ⟨b, rfl, hs, hn⟩ := hx a rfl
    obtain ⟨j, hj, hz⟩ := Option.map_eq_some_iff.1 Yba.info111
    exact Lib.run_from_unsafe w ⟨b, 0, none⟩ Yba.underlying89 Yba.underlying103 hj hs lies111
theorem from116 {x : Option Addr} {w : World} (hx : Fits w 116 34 x) : (convert 89 92 (.pointer x)).run Yba.prog w = .ok (.pointer x) w := by
  cases x with
  | none => exact run_nil_from_unsafe Yba.underlying89 Yba.underlying92 w
  | some a =>
    obtain ⟨b, rfl, hs, hn⟩ := hx a rfl
    obtain ⟨j, hj, hz⟩ := Option.map_eq_some_iff.1 Yba.info116
    exact Lib.run_from_unsafe w ⟨b, 0, none⟩ Yba.underlying89 Yba.underlying92 hj hs lies116

/-- (*atomic.Pointer[signedBytes]).Store -/
theorem storeS (b o : Nat) (x : Option Addr) (u : Value) (w : World) (hc : w.cell? ⟨b, o, none⟩ = some u) (hz : w.frozen? ⟨b, o, none⟩ = false) (hx : Fits w 111 66 x) :
    Calls Yba.prog 11 #[.pointer (some ⟨b, o, none⟩), .pointer x] w fun e w' => e = .returned (.tuple #[]) ∧ w' = w.setCell ⟨b, o, none⟩ (.pointer x) := by
  have hv := to111 hx
  have hl := run_call_storep (P := Yba.prog) Yba.func21 (by kernel_rfl) (by kernel_rfl) (by kernel_rfl) (by kernel_rfl) (y := x) hc hz
  go_enter Yba.func11, Yba.ntmps11
  go_wp2
  go_end0
  exact ⟨rfl, rfl⟩

/-- (*atomic.Pointer[keptForm]).Store -/
theorem storeF (b o : Nat) (x : Option Addr) (u : Value) (w : World) (hc : w.cell? ⟨b, o, none⟩ = some u) (hz : w.frozen? ⟨b, o, none⟩ = false) (hx : Fits w 116 34 x) :
    Calls Yba.prog 12 #[.pointer (some ⟨b, o, none⟩), .pointer x] w fun e w' => e = .returned (.tuple #[]) ∧ w' = w.setCell ⟨b, o, none⟩ (.pointer x) := by
  have hv := to116 hx
  have hl := run_call_storep (P := Yba.prog) Yba.func21 (by kernel_rfl) (by kernel_rfl) (by kernel_rfl) (by kernel_rfl) (y := x) hc hz
  go_enter Yba.func12, Yba.ntmps12
  go_wp2
  go_end0
  exact ⟨rfl, rfl⟩

/-- (*atomic.Pointer[signedBytes]).Load -/
theorem loadS (b o : Nat) (x : Option Addr) (w : World) (hc : w.cell? ⟨b, o, none⟩ = some (.pointer x)) (hx : Fits w 111 66 x) :
    Calls Yba.prog 15 #[.pointer (some ⟨b, o, none⟩)] w fun e w' => e = .returned (.pointer x) ∧ w' = w := by
  have hv := from111 hx
  have hl := run_call_loadp (P := Yba.prog) Yba.func22 (by kernel_rfl) (by kernel_rfl) (by kernel_rfl) (by kernel_rfl) hc
  go_enter Yba.func15, Yba.ntmps15
  go_wp2
  go_ret
  exact ⟨rfl, rfl⟩

/-- (*atomic.Pointer[keptForm]).Load -/
theorem loadF (b o : Nat) (x : Option Addr) (w : World) (hc : w.cell? ⟨b, o, none⟩ = some (.pointer x)) (hx : Fits w 116 34 x) :
    Calls Yba.prog 14 #[.pointer (some ⟨b, o, none⟩)] w fun e w' => e = .returned (.pointer x) ∧ w' = w := by
  have hv := from116 hx
  have hl := run_call_loadp (P := Yba.prog) Yba.func22 (by kernel_rfl) (by kernel_rfl) (by kernel_rfl) (by kernel_rfl) hc
  go_enter Yba.func14, Yba.ntmps14
  go_wp2
  go_ret
  exact ⟨rfl, rfl⟩

/-- (*atomic.Pointer[digestedQuorumSet]).Load of nil -/
theorem loadQ (b o : Nat) (w : World) (hc : w.cell? ⟨b, o, none⟩ = some (.pointer none)) :
    Calls Yba.prog 18 #[.pointer (some ⟨b, o, none⟩)] w fun e w' => e = .returned (.pointer none) ∧ w' = w := by
  have hv := run_nil_from_unsafe (P := Yba.prog) Yba.underlying89 Yba.underlying87 w
  have hl := run_call_loadp (P := Yba.prog) Yba.func22 (by kernel_rfl) (by kernel_rfl) (by kernel_rfl) (by kernel_rfl) hc
  go_enter Yba.func18, Yba.ntmps18
  go_wp2
  go_ret
  exact ⟨rfl, rfl⟩
end Go.Proofs.Ybulkdhki
