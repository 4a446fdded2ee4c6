/-
  encoding/binary at this program: AppendUvarint (12), BigEndian.AppendUint64 (13), BigEndian.Uint64 (30), Uvarint (27); bytes.Equal (11). The first four after the guide's own contracts for that package, turned to this program's numbers.
-/
import Derived.Test.YbulkdhhqB2
import Derived.OwnWalk
import Derived.Lib.VarintMem
import Derived.Lib.VarintBits
import Derived.Lib.EndianMore
import Derived.Lib.EndianBits
import Derived.Laws.BytesArg
import Derived.Laws.Closers25b
import Derived.Deep.Draws
namespace Go.Proofs.Ybulkdhhq
open Go.RowKit

set_option maxHeartbeats 1600000 in
set_option maxRecDepth 100000 in
theorem appendUvarint_any (B n x : Nat) (hx : x < 18446744073709551616) (sv : Value) (xs : List Value) (w : World) (hown : w.ownsRow B 5 1 sv n xs) (hBw : B ≤ w.heap.size) (hlim : n + 10 ≤ 140737488355328) :
    Calls Yba.prog 12 #[sv, .int .u64 x] w fun e w' => ∃ v', e = .returned v' ∧ w'.ownsRow B 5 1 v' (n + (Lib.uvarint x).length) (xs ++ Lib.byteCells (Lib.uvarint x)) ∧ Below B w w' := by
  obtain ⟨i0, hi, hz0, hz1, hz2⟩ := info_parts Yba.info5
  have hlen := Lib.uvarint_length64 hx
  go_enter Yba.func12, Yba.ntmps12
  go_wp2
  go_loopw [0, 1] (fun vb vx wr => ∃ (y : Nat) (pre : List UInt8), vx = .int .u64 y ∧ y ≤ x ∧ Lib.uvarint x = pre ++ Lib.uvarint y ∧ wr.ownsRow B 5 1 vb (n + pre.length) (xs ++ Lib.byteCells pre) ∧ Below B w wr)
    (fun _ vx _ => (intOf vx).toNat)
  case atStart => exact ⟨x, [], rfl, Nat.le_refl _, rfl, by simpa [Lib.byteCells] using hown, Below.refl _ _⟩
  case round =>
    obtain ⟨y, pre, rfl, hy, hsplit, hown1, hnx⟩ := hrel
    have hpl : pre.length + (Lib.uvarint y).length ≤ 10 := by
      have h2 := congrArg List.length hsplit
      rw [List.length_append] at h2
      omega
    have hyp := Lib.uvarint_pos y
    by_cases h128 : 128 ≤ y
    · have hor : bits .or .u8 ((y : Int) % 256) 128 = ((y % 128 + 128 : Nat) : Int) := by
        rw [Lib.u8_or128_any _ (by omega) (by omega)]
        omega
      go_wp2_with (at_builtin; refine wpList_append_own _ rfl _ _ 23 rfl B 5 i0 (.int .u8 0) 1 1 Yba.underlying23 hi hz0 hz1 hz2 rfl (by decide) _ _ _ rfl (hown1.alloc _) ⟨wr.heap.size, 0, none⟩ 1 1 [Value.int .u8 ((y % 128 + 128 : Nat) : Int)] rfl rfl ?c1 ?c2 ?c3 ?c4 ?c5 ?_)
      case c1 =>
        intro j u hj
        match j, hj with
        | 0, hj => simp at hj; subst hj; simp [Addr.add]
      case c2 => intro u hu; simp at hu; subst hu; rfl
      case c3 => unfold maxLen; omega
      case c4 => omega
      case c5 => have := hnx.size; simp; omega
      intro v' w1 hown' hgrow _
      have hnx1 : Below B w w1 := (hnx.alloc (by have := hnx.size; omega) _).grown hgrow (by have := hnx.size; simp; omega) (fun k hk => (hown1.lt k hk).1)
      go_wp2
      go_roundw
      case rel =>
        refine ⟨y / 128, pre ++ [(y % 128 + 128).toUInt8], by go_num, by omega, by rw [hsplit, Lib.uvarint_big h128]; simp, ?_, hnx1⟩
        have ec : ((y % 128 + 128 : Nat) : Int) = (y : Int) % 128 + 128 := by omega
        rw [Lib.byteCells_snoc pre (by omega), List.length_append, List.length_singleton, ← Nat.add_assoc, ec]
        exact hown'
      case measure => simp [intOf]; omega
    · have hsm : Lib.uvarint y = [y.toUInt8] := Lib.uvarint_small (by omega)
      go_wp2_with (at_builtin; refine wpList_append_own _ rfl _ _ 23 rfl B 5 i0 (.int .u8 0) 1 1 Yba.underlying23 hi hz0 hz1 hz2 rfl (by decide) _ _ _ rfl (hown1.alloc _) ⟨wr.heap.size, 0, none⟩ 1 1 [Value.int .u8 (y : Int)] rfl rfl ?c1 ?c2 ?c3 ?c4 ?c5 ?_)
      case c1 =>
        intro j u hj
        match j, hj with
        | 0, hj => simp at hj; subst hj; simp [Addr.add]
      case c2 => intro u hu; simp at hu; subst hu; rfl
      case c3 => unfold maxLen; omega
      case c4 => omega
      case c5 => have := hnx.size; simp; omega
      intro v' w1 hown' hgrow _
      have hnx1 : Below B w w1 := (hnx.alloc (by have := hnx.size; omega) _).grown hgrow (by have := hnx.size; simp; omega) (fun k hk => (hown1.lt k hk).1)
      go_wp2
      go_ret
      refine ⟨v', rfl, ?_, hnx1⟩
      rw [hsplit, hsm, Lib.byteCells_snoc pre (by omega), List.length_append, List.length_singleton, ← Nat.add_assoc]
      exact hown'

set_option maxHeartbeats 1600000 in
set_option maxRecDepth 100000 in
theorem appendUint64_any (B n v : Nat) (hv : v < 18446744073709551616) (sv : Value) (xs : List Value) (w : World) (hown : w.ownsRow B 5 1 sv n xs) (hBw : B ≤ w.heap.size) (hlim : n + 8 ≤ 140737488355328) :
    Calls Yba.prog 13 #[.agg #[], sv, .int .u64 v] w fun e w' => ∃ v', e = .returned v' ∧ w'.ownsRow B 5 1 v' (n + 8) (xs ++ Lib.byteCells (Lib.beBytes 8 v)) ∧ Below B w w' := by
  obtain ⟨i0, hi, hz0, hz1, hz2⟩ := info_parts Yba.info5
  have e0 : ((v % 256 : Nat) : Int) = (v : Int) % 256 := by omega
  have e1 : ((v / 256 % 256 : Nat) : Int) = (v : Int) / 256 % 256 := by omega
  have e2 : ((v / 256 / 256 % 256 : Nat) : Int) = (v : Int) / 65536 % 256 := by omega
  have e3 : ((v / 256 / 256 / 256 % 256 : Nat) : Int) = (v : Int) / 16777216 % 256 := by omega
  have e4 : ((v / 256 / 256 / 256 / 256 % 256 : Nat) : Int) = (v : Int) / 4294967296 % 256 := by omega
  have e5 : ((v / 256 / 256 / 256 / 256 / 256 % 256 : Nat) : Int) = (v : Int) / 1099511627776 % 256 := by omega
  have e6 : ((v / 256 / 256 / 256 / 256 / 256 / 256 % 256 : Nat) : Int) = (v : Int) / 281474976710656 % 256 := by omega
  have e7 : ((v / 256 / 256 / 256 / 256 / 256 / 256 / 256 % 256 : Nat) : Int) = (v : Int) / 72057594037927936 := by omega
  have hb : Lib.byteCells (Lib.beBytes 8 v) = [Value.int .u8 ((v : Int) / 72057594037927936), Value.int .u8 ((v : Int) / 281474976710656 % 256), Value.int .u8 ((v : Int) / 1099511627776 % 256), Value.int .u8 ((v : Int) / 4294967296 % 256), Value.int .u8 ((v : Int) / 16777216 % 256), Value.int .u8 ((v : Int) / 65536 % 256), Value.int .u8 ((v : Int) / 256 % 256), Value.int .u8 ((v : Int) % 256)] := by
    simp only [Lib.byteCells, Lib.beBytes, Lib.leBytes, List.reverse_cons, List.reverse_nil, List.nil_append, List.cons_append, List.map, Lib.toUInt8_mod, e0, e1, e2, e3, e4, e5, e6, e7]
  go_enter Yba.func13, Yba.ntmps13
  go_wp2_with (at_builtin; refine wpList_append_own _ rfl _ _ 23 rfl B 5 i0 (.int .u8 0) 1 1 Yba.underlying23 hi hz0 hz1 hz2 rfl (by decide) _ _ _ rfl ((hown.alloc _).alloc _) _ 8 8 [Value.int .u8 ((v : Int) / 72057594037927936), Value.int .u8 ((v : Int) / 281474976710656 % 256), Value.int .u8 ((v : Int) / 1099511627776 % 256), Value.int .u8 ((v : Int) / 4294967296 % 256), Value.int .u8 ((v : Int) / 16777216 % 256), Value.int .u8 ((v : Int) / 65536 % 256), Value.int .u8 ((v : Int) / 256 % 256), Value.int .u8 ((v : Int) % 256)] rfl rfl ?c1 ?c2 ?c3 ?c4 ?c5 ?_)
  case c1 =>
    intro j u hj
    match j, hj with
    | 0, hj => simp at hj; subst hj; simp [Addr.add]
    | 1, hj => simp at hj; subst hj; simp [Addr.add]
    | 2, hj => simp at hj; subst hj; simp [Addr.add]
    | 3, hj => simp at hj; subst hj; simp [Addr.add]
    | 4, hj => simp at hj; subst hj; simp [Addr.add]
    | 5, hj => simp at hj; subst hj; simp [Addr.add]
    | 6, hj => simp at hj; subst hj; simp [Addr.add]
    | 7, hj => simp at hj; subst hj; simp [Addr.add]
  case c2 => intro u hu; simp at hu; rcases hu with rfl | rfl | rfl | rfl | rfl | rfl | rfl | rfl <;> rfl
  case c3 => unfold maxLen; omega
  case c4 => omega
  case c5 => simp; omega
  intro v' w1 hown' hgrow _
  have hnx1 : Below B w w1 := (((Below.refl B w).alloc hBw _).alloc (by simp; omega) _).grown hgrow (by simp; omega) (fun k hk => (hown.lt k hk).1)
  go_wp2
  go_ret
  exact ⟨v', rfl, by rw [hb]; exact hown', hnx1⟩

theorem cell_al {w : World} {p : Addr} {v : Value} (o : Obj) (h : w.cell? p = some v) : (w.alloc o).cell? p = some v := by
  rw [World.cell?_alloc_lt _ _ _ (block_lt_of_cell h)]; exact h

set_option maxHeartbeats 1600000 in
set_option maxRecDepth 100000 in
theorem uint64_any (g o n c : Nat) (b0 b1 b2 b3 b4 b5 b6 b7 : UInt8) (w : World) (hn : 8 ≤ n)
    (c0 : w.cell? ⟨g, o, none⟩ = some (.int .u8 b0.toNat)) (c1 : w.cell? ⟨g, o + 1, none⟩ = some (.int .u8 b1.toNat)) (c2 : w.cell? ⟨g, o + 2, none⟩ = some (.int .u8 b2.toNat)) (c3 : w.cell? ⟨g, o + 3, none⟩ = some (.int .u8 b3.toNat)) (c4 : w.cell? ⟨g, o + 4, none⟩ = some (.int .u8 b4.toNat)) (c5 : w.cell? ⟨g, o + 5, none⟩ = some (.int .u8 b5.toNat)) (c6 : w.cell? ⟨g, o + 6, none⟩ = some (.int .u8 b6.toNat)) (c7 : w.cell? ⟨g, o + 7, none⟩ = some (.int .u8 b7.toNat)) :
    Calls Yba.prog 30 #[.agg #[], .slice (some ⟨g, o, none⟩) n c] w fun e w' => e = .returned (.int .u64 (Lib.beNat [b0, b1, b2, b3, b4, b5, b6, b7])) ∧ Below w.heap.size w w' := by
  have d0 := cell_al (.cells #[] 85) c0
  have h0 : b0.toNat < 256 := b0.toNat_lt
  have d1 := cell_al (.cells #[] 85) c1
  have h1 : b1.toNat < 256 := b1.toNat_lt
  have d2 := cell_al (.cells #[] 85) c2
  have h2 : b2.toNat < 256 := b2.toNat_lt
  have d3 := cell_al (.cells #[] 85) c3
  have h3 : b3.toNat < 256 := b3.toNat_lt
  have d4 := cell_al (.cells #[] 85) c4
  have h4 : b4.toNat < 256 := b4.toNat_lt
  have d5 := cell_al (.cells #[] 85) c5
  have h5 : b5.toNat < 256 := b5.toNat_lt
  have d6 := cell_al (.cells #[] 85) c6
  have h6 : b6.toNat < 256 := b6.toNat_lt
  have d7 := cell_al (.cells #[] 85) c7
  have h7 : b7.toNat < 256 := b7.toNat_lt
  have hv : ((Lib.beNat [b0, b1, b2, b3, b4, b5, b6, b7] : Nat) : Int) = (b7.toNat : Int) + (b6.toNat : Int) * 256 + (b5.toNat : Int) * 65536 + (b4.toNat : Int) * 16777216 + (b3.toNat : Int) * 4294967296 + (b2.toNat : Int) * 1099511627776 + (b1.toNat : Int) * 281474976710656 + (b0.toNat : Int) * 72057594037927936 := by
    simp only [Lib.beNat, Lib.beFrom]
    push_cast
    omega
  have q0 : 0 < n := by omega
  have q1 : (1 : Int) < (n : Int) := by omega
  have q2 : (2 : Int) < (n : Int) := by omega
  have q3 : (3 : Int) < (n : Int) := by omega
  have q4 : (4 : Int) < (n : Int) := by omega
  have q5 : (5 : Int) < (n : Int) := by omega
  have q6 : (6 : Int) < (n : Int) := by omega
  have q7 : (7 : Int) < (n : Int) := by omega
  go_enter Yba.func30, Yba.ntmps30
  go_wp2
  go_quiet (fail)
  go_wp2
  go_ret
  refine ⟨?_, ((Below.refl _ w).alloc (Nat.le_refl _) _).trans ⟨rfl, rfl, rfl, Nat.le_refl _, fun _ _ => rfl⟩⟩
  simp (disch := omega) only [u64_or8, u64_or16, u64_or24, u64_or32, u64_or40, u64_or48, u64_or56]
  rw [hv]
  rfl

set_option maxHeartbeats 8000000 in
set_option maxRecDepth 100000 in
/-- binary.Uvarint of bytes that open with the varint of x (below 2^63): x, and how many bytes that took. -/
theorem uvarint_any (g o n c x : Nat) (l rest : List UInt8) (w : World) (hx : x < 9223372036854775808) (hn : n ≤ 4096) (hl : l.length = n) (hsplit : l = Lib.uvarint x ++ rest) (hcell : ∀ j (hj : j < l.length), w.cell? ⟨g, o + j, none⟩ = some (.int .u8 (l[j]).toNat)) :
    Calls Yba.prog 27 #[.slice (some ⟨g, o, none⟩) n c] w fun e w' => e = .returned (.tuple #[.int .u64 x, .int .i64 (Lib.uvarint x).length]) ∧ w' = w := by
  go_enter Yba.func27, Yba.ntmps27
  go_wp2
  go_loop [4, 5, 10] (fun vx vs vi => ∃ k acc y : Nat, vi = .int .i64 k ∧ vs = .int .u64 ((7 * k : Nat) : Int) ∧ vx = .int .u64 acc ∧ k ≤ 8 ∧ acc < 2 ^ (7 * k) ∧ x = acc + y * 2 ^ (7 * k) ∧ l.drop k = Lib.uvarint y ++ rest ∧ (Lib.uvarint x).length = k + (Lib.uvarint y).length)
    (fun _ _ vi => n - (intOf vi).toNat)
  case atStart => exact ⟨0, 0, x, rfl, rfl, rfl, by omega, by decide, by simp, by simpa using hsplit, by simp⟩
  case round =>
    obtain ⟨k, acc, y, rfl, rfl, rfl, hk, hacc, hxe, hdrop, hlen⟩ := hrel
    have hyp := Lib.uvarint_pos y
    have hkn : k < n := by
      have h := congrArg List.length hdrop
      rw [List.length_drop, List.length_append] at h
      omega
    have hkl : k < l.length := by omega
    have hc := hcell k hkl
    have hd : l.drop k = l[k] :: l.drop (k + 1) := List.drop_eq_getElem_cons hkl
    have hsh : Hid ((if y < 128 then (l[k]).toNat = y ∧ (Lib.uvarint x).length = k + 1 else (l[k]).toNat = y % 128 + 128 ∧ l.drop (k + 1) = Lib.uvarint (y / 128) ++ rest ∧ (Lib.uvarint x).length = k + 1 + (Lib.uvarint (y / 128)).length)) := by
      show (if y < 128 then _ else _)
      split
      · rename_i hy
        rw [Lib.uvarint_small (x := y) hy] at hdrop hlen
        rw [hd] at hdrop
        simp only [List.cons_append, List.cons.injEq] at hdrop
        rw [hdrop.1, Lib.toUInt8_toNat (by omega)]
        exact ⟨rfl, by simpa using hlen⟩
      · rename_i hy
        rw [Lib.uvarint_big (x := y) (by omega)] at hdrop hlen
        rw [hd] at hdrop
        simp only [List.cons_append, List.cons.injEq] at hdrop
        rw [hdrop.1, Lib.toUInt8_toNat (by omega)]
        refine ⟨rfl, hdrop.2, ?_⟩
        simp only [List.length_cons] at hlen
        omega
    clear hcell hd hdrop hlen hsplit
    generalize l[k] = b at hc hsh
    have hz : (k : Int) < (n : Int) := by omega
    have hks : k = 0 ∨ k = 1 ∨ k = 2 ∨ k = 3 ∨ k = 4 ∨ k = 5 ∨ k = 6 ∨ k = 7 ∨ k = 8 := by omega
    have HX : Hid (x = acc + y * 2 ^ (7 * k)) := hxe
    clear hxe
    rcases hks with rfl | rfl | rfl | rfl | rfl | rfl | rfl | rfl | rfl
    · obtain rfl : acc = 0 := by simpa using hacc
      obtain rfl : x = y := by have := HX.out; simpa using this
      have hc0 : w.cell? ⟨g, o, none⟩ = some (.int .u8 b.toNat) := hc
      have hz0 : 0 < n := by omega
      clear hc
      by_cases hy : x < 128
      · have h2 := hsh.out
        rw [if_pos hy] at h2
        obtain ⟨hb, hln⟩ := h2
        have hor : bits .or .u64 0 (x : Int) = (x : Int) := by
          rw [u64_orv0 _ _ (by omega) (by omega) (by omega) (by omega) (by omega)]
          omega
        rw [hb] at hc0
        have HL : Hid ((Lib.uvarint x).length = 0 + 1) := hln
        clear hb hln hsh HX
        go_wp2
        go_ret2
        exact ⟨by rw [HL.out]; rfl, rfl⟩
      · have h2 := hsh.out
        rw [if_neg hy] at h2
        obtain ⟨hb, hdr, hln⟩ := h2
        have hbl : 128 ≤ b.toNat := by omega
        have hbh : b.toNat < 256 := by omega
        have HB : Hid (b.toNat = x % 128 + 128) := hb
        have hv : bits .or .u64 0 (IntKind.u64.wrap (IntKind.u64.wrap (bits .and .u8 (b.toNat : Int) 127))) = ((x % 128 : Nat) : Int) := by
          simp (disch := omega) only [u8_and127, u64_wrap_id, u64_orv0]
          omega
        have HL : Hid ((Lib.uvarint x).length = 0 + 1 + (Lib.uvarint (x / 128)).length) := hln
        have HD : Hid (l.drop (0 + 1) = Lib.uvarint (x / 128) ++ rest) := hdr
        clear hb hln hdr hsh HX
        go_wp2
        go_round
        case rel => exact ⟨1, x % 128, x / 128, by first | rfl | go_num, by first | rfl | go_num, by first | rfl | (congr 1; omega), by omega, by show _ < 128; omega, by show x = x % 128 + x / 128 * 128; omega, HD.out, HL.out⟩
        case measure => simp [intOf]; omega
    · have hx' : x = acc + y * 128 := HX.out
      have hac : acc < 128 := hacc
      have HX' : Hid (x = acc + y * 128) := hx'
      have hyb : y < 72057594037927936 := by omega
      by_cases hy : y < 128
      · have h2 := hsh.out
        rw [if_pos hy] at h2
        obtain ⟨hb, hln⟩ := h2
        have hor : bits .or .u64 (acc : Int) ((y : Int) * 128) = (x : Int) := by
          rw [u64_orv7 _ _ (by omega) (by omega) (by omega) (by omega) (by omega)]
          omega
        rw [hb] at hc
        have HL : Hid ((Lib.uvarint x).length = 1 + 1) := hln
        clear hb hln hx' hsh
        go_wp2
        go_ret2
        exact ⟨by rw [HL.out]; first | (rw [hor]; rfl) | (congr 3; omega) | rfl, rfl⟩
      · have h2 := hsh.out
        rw [if_neg hy] at h2
        obtain ⟨hb, hdr, hln⟩ := h2
        have hbl : 128 ≤ b.toNat := by omega
        have hbh : b.toNat < 256 := by omega
        have HB : Hid (b.toNat = y % 128 + 128) := hb
        have hv : bits .or .u64 (acc : Int) (IntKind.u64.wrap (IntKind.u64.wrap (bits .and .u8 (b.toNat : Int) 127) * 128)) = ((acc + y % 128 * 128 : Nat) : Int) := by
          simp (disch := omega) only [u8_and127, u64_wrap_id, u64_orv7]
          omega
        have HL : Hid ((Lib.uvarint x).length = 1 + 1 + (Lib.uvarint (y / 128)).length) := hln
        have HD : Hid (l.drop (1 + 1) = Lib.uvarint (y / 128) ++ rest) := hdr
        clear hb hln hdr hx' hsh
        go_wp2
        go_round
        case rel => exact ⟨2, acc + y % 128 * 128, y / 128, by first | rfl | go_num, by first | rfl | go_num, by first | rfl | (congr 1; omega), by omega, by show _ < 16384; omega, by show x = acc + y % 128 * 128 + y / 128 * 16384; have := HX'.out; omega, HD.out, HL.out⟩
        case measure => simp [intOf]; omega
    · have hx' : x = acc + y * 16384 := HX.out
      have hac : acc < 16384 := hacc
      have HX' : Hid (x = acc + y * 16384) := hx'
      have hyb : y < 562949953421312 := by omega
      by_cases hy : y < 128
      · have h2 := hsh.out
        rw [if_pos hy] at h2
        obtain ⟨hb, hln⟩ := h2
        have hor : bits .or .u64 (acc : Int) ((y : Int) * 16384) = (x : Int) := by
          rw [u64_orv14 _ _ (by omega) (by omega) (by omega) (by omega) (by omega)]
          omega
        rw [hb] at hc
        have HL : Hid ((Lib.uvarint x).length = 2 + 1) := hln
        clear hb hln hx' hsh
        go_wp2
        go_ret2
        exact ⟨by rw [HL.out]; first | (rw [hor]; rfl) | (congr 3; omega) | rfl, rfl⟩
      · have h2 := hsh.out
        rw [if_neg hy] at h2
        obtain ⟨hb, hdr, hln⟩ := h2
        have hbl : 128 ≤ b.toNat := by omega
        have hbh : b.toNat < 256 := by omega
        have HB : Hid (b.toNat = y % 128 + 128) := hb
        have hv : bits .or .u64 (acc : Int) (IntKind.u64.wrap (IntKind.u64.wrap (bits .and .u8 (b.toNat : Int) 127) * 16384)) = ((acc + y % 128 * 16384 : Nat) : Int) := by
          simp (disch := omega) only [u8_and127, u64_wrap_id, u64_orv14]
          omega
        have HL : Hid ((Lib.uvarint x).length = 2 + 1 + (Lib.uvarint (y / 128)).length) := hln
        have HD : Hid (l.drop (2 + 1) = Lib.uvarint (y / 128) ++ rest) := hdr
        clear hb hln hdr hx' hsh
        go_wp2
        go_round
        case rel => exact ⟨3, acc + y % 128 * 16384, y / 128, by first | rfl | go_num, by first | rfl | go_num, by first | rfl | (congr 1; omega), by omega, by show _ < 2097152; omega, by show x = acc + y % 128 * 16384 + y / 128 * 2097152; have := HX'.out; omega, HD.out, HL.out⟩
        case measure => simp [intOf]; omega
    · have hx' : x = acc + y * 2097152 := HX.out
      have hac : acc < 2097152 := hacc
      have HX' : Hid (x = acc + y * 2097152) := hx'
      have hyb : y < 4398046511104 := by omega
      by_cases hy : y < 128
      · have h2 := hsh.out
        rw [if_pos hy] at h2
        obtain ⟨hb, hln⟩ := h2
        have hor : bits .or .u64 (acc : Int) ((y : Int) * 2097152) = (x : Int) := by
          rw [u64_orv21 _ _ (by omega) (by omega) (by omega) (by omega) (by omega)]
          omega
        rw [hb] at hc
        have HL : Hid ((Lib.uvarint x).length = 3 + 1) := hln
        clear hb hln hx' hsh
        go_wp2
        go_ret2
        exact ⟨by rw [HL.out]; first | (rw [hor]; rfl) | (congr 3; omega) | rfl, rfl⟩
      · have h2 := hsh.out
        rw [if_neg hy] at h2
        obtain ⟨hb, hdr, hln⟩ := h2
        have hbl : 128 ≤ b.toNat := by omega
        have hbh : b.toNat < 256 := by omega
        have HB : Hid (b.toNat = y % 128 + 128) := hb
        have hv : bits .or .u64 (acc : Int) (IntKind.u64.wrap (IntKind.u64.wrap (bits .and .u8 (b.toNat : Int) 127) * 2097152)) = ((acc + y % 128 * 2097152 : Nat) : Int) := by
          simp (disch := omega) only [u8_and127, u64_wrap_id, u64_orv21]
          omega
        have HL : Hid ((Lib.uvarint x).length = 3 + 1 + (Lib.uvarint (y / 128)).length) := hln
        have HD : Hid (l.drop (3 + 1) = Lib.uvarint (y / 128) ++ rest) := hdr
        clear hb hln hdr hx' hsh
        go_wp2
        go_round
        case rel => exact ⟨4, acc + y % 128 * 2097152, y / 128, by first | rfl | go_num, by first | rfl | go_num, by first | rfl | (congr 1; omega), by omega, by show _ < 268435456; omega, by show x = acc + y % 128 * 2097152 + y / 128 * 268435456; have := HX'.out; omega, HD.out, HL.out⟩
        case measure => simp [intOf]; omega
    · have hx' : x = acc + y * 268435456 := HX.out
      have hac : acc < 268435456 := hacc
      have HX' : Hid (x = acc + y * 268435456) := hx'
      have hyb : y < 34359738368 := by omega
      by_cases hy : y < 128
      · have h2 := hsh.out
        rw [if_pos hy] at h2
        obtain ⟨hb, hln⟩ := h2
        have hor : bits .or .u64 (acc : Int) ((y : Int) * 268435456) = (x : Int) := by
          rw [u64_orv28 _ _ (by omega) (by omega) (by omega) (by omega) (by omega)]
          omega
        rw [hb] at hc
        have HL : Hid ((Lib.uvarint x).length = 4 + 1) := hln
        clear hb hln hx' hsh
        go_wp2
        go_ret2
        exact ⟨by rw [HL.out]; first | (rw [hor]; rfl) | (congr 3; omega) | rfl, rfl⟩
      · have h2 := hsh.out
        rw [if_neg hy] at h2
        obtain ⟨hb, hdr, hln⟩ := h2
        have hbl : 128 ≤ b.toNat := by omega
        have hbh : b.toNat < 256 := by omega
        have HB : Hid (b.toNat = y % 128 + 128) := hb
        have hv : bits .or .u64 (acc : Int) (IntKind.u64.wrap (IntKind.u64.wrap (bits .and .u8 (b.toNat : Int) 127) * 268435456)) = ((acc + y % 128 * 268435456 : Nat) : Int) := by
          simp (disch := omega) only [u8_and127, u64_wrap_id, u64_orv28]
          omega
        have HL : Hid ((Lib.uvarint x).length = 4 + 1 + (Lib.uvarint (y / 128)).length) := hln
        have HD : Hid (l.drop (4 + 1) = Lib.uvarint (y / 128) ++ rest) := hdr
        clear hb hln hdr hx' hsh
        go_wp2
        go_round
        case rel => exact ⟨5, acc + y % 128 * 268435456, y / 128, by first | rfl | go_num, by first | rfl | go_num, by first | rfl | (congr 1; omega), by omega, by show _ < 34359738368; omega, by show x = acc + y % 128 * 268435456 + y / 128 * 34359738368; have := HX'.out; omega, HD.out, HL.out⟩
        case measure => simp [intOf]; omega
    · have hx' : x = acc + y * 34359738368 := HX.out
      have hac : acc < 34359738368 := hacc
      have HX' : Hid (x = acc + y * 34359738368) := hx'
      have hyb : y < 268435456 := by omega
      by_cases hy : y < 128
      · have h2 := hsh.out
        rw [if_pos hy] at h2
        obtain ⟨hb, hln⟩ := h2
        have hor : bits .or .u64 (acc : Int) ((y : Int) * 34359738368) = (x : Int) := by
          rw [u64_orv35 _ _ (by omega) (by omega) (by omega) (by omega) (by omega)]
          omega
        rw [hb] at hc
        have HL : Hid ((Lib.uvarint x).length = 5 + 1) := hln
        clear hb hln hx' hsh
        go_wp2
        go_ret2
        exact ⟨by rw [HL.out]; first | (rw [hor]; rfl) | (congr 3; omega) | rfl, rfl⟩
      · have h2 := hsh.out
        rw [if_neg hy] at h2
        obtain ⟨hb, hdr, hln⟩ := h2
        have hbl : 128 ≤ b.toNat := by omega
        have hbh : b.toNat < 256 := by omega
        have HB : Hid (b.toNat = y % 128 + 128) := hb
        have hv : bits .or .u64 (acc : Int) (IntKind.u64.wrap (IntKind.u64.wrap (bits .and .u8 (b.toNat : Int) 127) * 34359738368)) = ((acc + y % 128 * 34359738368 : Nat) : Int) := by
          simp (disch := omega) only [u8_and127, u64_wrap_id, u64_orv35]
          omega
        have HL : Hid ((Lib.uvarint x).length = 5 + 1 + (Lib.uvarint (y / 128)).length) := hln
        have HD : Hid (l.drop (5 + 1) = Lib.uvarint (y / 128) ++ rest) := hdr
        clear hb hln hdr hx' hsh
        go_wp2
        go_round
        case rel => exact ⟨6, acc + y % 128 * 34359738368, y / 128, by first | rfl | go_num, by first | rfl | go_num, by first | rfl | (congr 1; omega), by omega, by show _ < 4398046511104; omega, by show x = acc + y % 128 * 34359738368 + y / 128 * 4398046511104; have := HX'.out; omega, HD.out, HL.out⟩
        case measure => simp [intOf]; omega
    · have hx' : x = acc + y * 4398046511104 := HX.out
      have hac : acc < 4398046511104 := hacc
      have HX' : Hid (x = acc + y * 4398046511104) := hx'
      have hyb : y < 2097152 := by omega
      by_cases hy : y < 128
      · have h2 := hsh.out
        rw [if_pos hy] at h2
        obtain ⟨hb, hln⟩ := h2
        have hor : bits .or .u64 (acc : Int) ((y : Int) * 4398046511104) = (x : Int) := by
          rw [u64_orv42 _ _ (by omega) (by omega) (by omega) (by omega) (by omega)]
          omega
        rw [hb] at hc
        have HL : Hid ((Lib.uvarint x).length = 6 + 1) := hln
        clear hb hln hx' hsh
        go_wp2
        go_ret2
        exact ⟨by rw [HL.out]; first | (rw [hor]; rfl) | (congr 3; omega) | rfl, rfl⟩
      · have h2 := hsh.out
        rw [if_neg hy] at h2
        obtain ⟨hb, hdr, hln⟩ := h2
        have hbl : 128 ≤ b.toNat := by omega
        have hbh : b.toNat < 256 := by omega
        have HB : Hid (b.toNat = y % 128 + 128) := hb
        have hv : bits .or .u64 (acc : Int) (IntKind.u64.wrap (IntKind.u64.wrap (bits .and .u8 (b.toNat : Int) 127) * 4398046511104)) = ((acc + y % 128 * 4398046511104 : Nat) : Int) := by
          simp (disch := omega) only [u8_and127, u64_wrap_id, u64_orv42]
          omega
        have HL : Hid ((Lib.uvarint x).length = 6 + 1 + (Lib.uvarint (y / 128)).length) := hln
        have HD : Hid (l.drop (6 + 1) = Lib.uvarint (y / 128) ++ rest) := hdr
        clear hb hln hdr hx' hsh
        go_wp2
        go_round
        case rel => exact ⟨7, acc + y % 128 * 4398046511104, y / 128, by first | rfl | go_num, by first | rfl | go_num, by first | rfl | (congr 1; omega), by omega, by show _ < 562949953421312; omega, by show x = acc + y % 128 * 4398046511104 + y / 128 * 562949953421312; have := HX'.out; omega, HD.out, HL.out⟩
        case measure => simp [intOf]; omega
    · have hx' : x = acc + y * 562949953421312 := HX.out
      have hac : acc < 562949953421312 := hacc
      have HX' : Hid (x = acc + y * 562949953421312) := hx'
      have hyb : y < 16384 := by omega
      by_cases hy : y < 128
      · have h2 := hsh.out
        rw [if_pos hy] at h2
        obtain ⟨hb, hln⟩ := h2
        have hor : bits .or .u64 (acc : Int) ((y : Int) * 562949953421312) = (x : Int) := by
          rw [u64_orv49 _ _ (by omega) (by omega) (by omega) (by omega) (by omega)]
          omega
        rw [hb] at hc
        have HL : Hid ((Lib.uvarint x).length = 7 + 1) := hln
        clear hb hln hx' hsh
        go_wp2
        go_ret2
        exact ⟨by rw [HL.out]; first | (rw [hor]; rfl) | (congr 3; omega) | rfl, rfl⟩
      · have h2 := hsh.out
        rw [if_neg hy] at h2
        obtain ⟨hb, hdr, hln⟩ := h2
        have hbl : 128 ≤ b.toNat := by omega
        have hbh : b.toNat < 256 := by omega
        have HB : Hid (b.toNat = y % 128 + 128) := hb
        have hv : bits .or .u64 (acc : Int) (IntKind.u64.wrap (IntKind.u64.wrap (bits .and .u8 (b.toNat : Int) 127) * 562949953421312)) = ((acc + y % 128 * 562949953421312 : Nat) : Int) := by
          simp (disch := omega) only [u8_and127, u64_wrap_id, u64_orv49]
          omega
        have HL : Hid ((Lib.uvarint x).length = 7 + 1 + (Lib.uvarint (y / 128)).length) := hln
        have HD : Hid (l.drop (7 + 1) = Lib.uvarint (y / 128) ++ rest) := hdr
        clear hb hln hdr hx' hsh
        go_wp2
        go_round
        case rel => exact ⟨8, acc + y % 128 * 562949953421312, y / 128, by first | rfl | go_num, by first | rfl | go_num, by first | rfl | (congr 1; omega), by omega, by show _ < 72057594037927936; omega, by show x = acc + y % 128 * 562949953421312 + y / 128 * 72057594037927936; have := HX'.out; omega, HD.out, HL.out⟩
        case measure => simp [intOf]; omega
    · have hx' : x = acc + y * 72057594037927936 := HX.out
      have hac : acc < 72057594037927936 := hacc
      have HX' : Hid (x = acc + y * 72057594037927936) := hx'
      have hyb : y < 128 := by omega
      by_cases hy : y < 128
      · have h2 := hsh.out
        rw [if_pos hy] at h2
        obtain ⟨hb, hln⟩ := h2
        have hor : bits .or .u64 (acc : Int) ((y : Int) * 72057594037927936) = (x : Int) := by
          rw [u64_orv56 _ _ (by omega) (by omega) (by omega) (by omega) (by omega)]
          omega
        rw [hb] at hc
        have HL : Hid ((Lib.uvarint x).length = 8 + 1) := hln
        clear hb hln hx' hsh
        go_wp2
        go_ret2
        exact ⟨by rw [HL.out]; first | (rw [hor]; rfl) | (congr 3; omega) | rfl, rfl⟩
      · omega

/-- bytes.Equal of two slices that hold the same bytes. -/
theorem bytesEqual_any (p1 p2 : Option Addr) (n c d : Nat) (s : ByteArray) (w : World)
    (h1 : (convert 23 9 (.slice p1 n c)).run Yba.prog w = .ok (.string s) w) (h2 : (convert 23 9 (.slice p2 n d)).run Yba.prog w = .ok (.string s) w) :
    Calls Yba.prog 11 #[.slice p1 n c, .slice p2 n d] w fun e w' => e = .returned (.bool true) ∧ w' = w := by
  go_enter Yba.func11, Yba.ntmps11
  go_wp2
  go_ret
  exact ⟨rfl, rfl⟩
end Go.Proofs.Ybulkdhhq
