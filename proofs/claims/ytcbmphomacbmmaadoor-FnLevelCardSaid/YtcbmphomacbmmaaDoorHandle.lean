/-
  newHandleState, free and appendNonBuiltIns without attributes, handle: the line of a record with a level from -4 to 8 and a short message that needs no quoting. Conditions: no step was taken, no attribute is given; safeSet as its initialiser lays it.
-/
import Derived.Test.YtcbmphomacbmmaaDoorKey
import Derived.Test.YtcbmphomacbmmaaDoorLevels
import Derived.Defers
import Derived.Outline
import Derived.Lib.SlBytesRow
namespace Go.Proofs.YtcbmphomacbmmaaDoor
open Go.RowKit
section
variable {w w' : World} {B bh bs bb bp : Nat} {js fb : Bool} {sep : ByteArray} {l l' : List UInt8}

theorem info44 : (Tryd.prog.info? 44).map (fun i => (i.zero, i.size, i.bytes)) = some (some (.slice none 0 0), 1, 24) := by kernel_rfl

theorem newBuffer_any (w : World) : Calls Tryd.prog 32 #[] w fun e w' => e = .returned (.pointer (some ⟨w.heap.size, 0, none⟩)) ∧ w' = w.alloc (.cells #[.slice none 0 0] 44) := by
  go_enter Tryd.func32, Tryd.ntmps32
  go_wp2
  go_ret
  exact ⟨rfl, rfl⟩

set_option maxHeartbeats 1000000 in
theorem newState_any (w : World) (a b : Addr) (fb : Bool) (sep : ByteArray) :
    Calls Tryd.prog 21 #[.pointer (some a), .pointer (some b), .bool fb, .string sep] w fun e w' => ∃ bp, w.heap.size ≤ bp ∧ e = .returned (.agg #[.pointer (some a), .pointer (some b), .bool fb, .string sep, .pointer (some ⟨bp, 0, none⟩), .pointer none]) ∧
      Blk w' bp 44 #[.slice none 0 0] ∧ Below w.heap.size w w' := by
  go_enter Tryd.func21, Tryd.ntmps21
  go_wp2_with (go_at_call 32; go_must (refine (newBuffer_any _).mono ?_; rintro e w1 ⟨rfl, rfl⟩))
  refine bodyPost_ret (v := .agg #[.pointer (some a), .pointer (some b), .bool fb, .string sep, .pointer (some ⟨w.heap.size + 1, 0, none⟩), .pointer none]) (by simp [results, Tryd.results21, go_sem]) rfl ⟨w.heap.size + 1, by omega, rfl, ?_, ?_⟩
  · refine Blk.alloc ?_ _
    have h := Blk.new (w.alloc (.cells #[.pointer (some a), .pointer (some b), .bool fb, .string sep, .pointer (some ⟨w.heap.size + 1, 0, none⟩), .pointer none] 66)) 44 #[.slice none 0 0]
    simpa using h
  · exact (((Below.refl _ w).alloc (Nat.le_refl _) _).alloc (by simp) _).alloc (by simp; omega) _

/-- free, entered as a deferred call: it changes nothing. -/
theorem free_deferred (h : St w B js bh bs bb bp fb sep l) (u : FrameMode) :
    CallsD Tryd.prog 22 #[.pointer (some ⟨bs, 0, none⟩)] u w fun e u' w' => u' = u ∧ (e = .returned (.tuple #[]) ∧ w' = w) := by
  obtain ⟨c0, c1, c3, c4, c5, d0, p0, f3⟩ := h.cells
  have c2 : w.cell? ⟨bs, 2, none⟩ = some (.bool fb) := h.s.cell 2
  clear h
  cases fb
  · go_enter_d Tryd.func22, Tryd.ntmps22
    go_wp2
    go_end0
    go_wp2
    go_end0
    exact ⟨rfl, rfl⟩
  · go_enter_d Tryd.func22, Tryd.ntmps22
    go_wp2
    go_end0
    go_wp2
    go_end0
    go_wp2
    go_end0
    exact ⟨rfl, rfl⟩

/-- what lies below the heap's size stays: the state stands. -/
theorem St.below (h : St w B js bh bs bb bp fb sep l) (hb : Below w.heap.size w w') : St w' B js bh bs bb bp fb sep l := by
  obtain ⟨v, hv, hown⟩ := h.b
  exact ⟨h.s.below hb h.s.lt, h.h.below hb h.h.lt, h.p.below hb h.p.lt, ⟨v, hv.below hb hv.lt, hown.kept (row := none) ⟨hb.os, hb.tape, hb.output, hb.size, fun k hk _ => hb.block k hk⟩ (by cases v.ownBlock <;> simp)⟩, h.ne, h.los, h.lob, Nat.le_trans h.hz hb.size⟩

theorem numAttrs_any (w : World) (msg : ByteArray) (n : Int) (A : Option Addr) (k c : Nat) :
    Calls Tryd.prog 52 #[.agg #[.string msg, .int .i64 n, .slice A k c]] w fun e w' => e = .returned (.int .i64 k) ∧ Below w.heap.size w w' := by
  go_enter Tryd.func52, Tryd.ntmps52
  go_wp2
  go_ret
  exact ⟨rfl, (Below.refl _ w).alloc (Nat.le_refl _) _⟩

set_option maxRecDepth 100000 in
set_option maxHeartbeats 2000000 in
/-- appendNonBuiltIns without attributes: in JSON the object is closed. -/
theorem nonBuiltIns_none (h : St w B js bh bs bb bp fb sep l) (hlen : l.length + 1 ≤ 140737488355328) (msg : ByteArray) (n : Int) :
    Calls Tryd.prog 37 #[.pointer (some ⟨bs, 0, none⟩), .agg #[.string msg, .int .i64 n, .slice none 0 0]] w fun e w' => e = .returned (.tuple #[]) ∧
      St w' B js bh bs bb bp fb sep (l ++ if js then [125] else []) ∧ Below B w w' := by
  have hbs := h.s.lt
  have hbh := h.h.lt
  have HZ := Lib.hid h.hz
  obtain ⟨c0, c1, c3, c4, c5, d0, p0, f3⟩ := h.cells
  have d1 : w.cell? ⟨bh, 1, none⟩ = some (.slice none 0 0) := h.h.cell 1
  have d3 : w.cell? ⟨bh, 3, none⟩ = some (.slice none 0 0) := h.h.cell 3
  have d4 : w.cell? ⟨bh, 4, none⟩ = some (.int .i64 0) := h.h.cell 4
  have H := Lib.hid h
  have HL := Lib.hid hlen
  clear h hlen
  cases js
  · go_enter Tryd.func37, Tryd.ntmps37
    go_wp2_with (go_at_call 52; go_must (refine (numAttrs_any _ msg n none 0 0).mono ?_; rintro e w1 ⟨rfl, hb0⟩; have hb1 : Below w.heap.size w w1 := (((Below.refl _ w).alloc (Nat.le_refl _) _).alloc (by simp) _).trans (hb0.mono (by simp; omega)); have h1 := H.out.below hb1; clear c0 c1 c3 c4 c5 d0 p0 f3 d1 d3 d4; obtain ⟨c0, c1, c3, c4, c5, d0, p0, f3⟩ := h1.cells; have e0 : w1.cell? ⟨w.heap.size, 0, none⟩ = some (.pointer (some ⟨bs, 0, none⟩)) := (hb0.cell (by simp; omega)).trans (by simp)))
    go_end0
    exact ⟨rfl, by simpa using h1, hb1.mono HZ.out⟩
  · go_enter Tryd.func37, Tryd.ntmps37
    go_wp2_with (go_at_call 52; go_must (refine (numAttrs_any _ msg n none 0 0).mono ?_; rintro e w1 ⟨rfl, hb0⟩; have hb1 : Below w.heap.size w w1 := (((Below.refl _ w).alloc (Nat.le_refl _) _).alloc (by simp) _).trans (hb0.mono (by simp; omega)); have h1 := H.out.below hb1; clear c0 c1 c3 c4 c5 d0 p0 f3 d1 d3 d4; obtain ⟨c0, c1, c3, c4, c5, d0, p0, f3⟩ := h1.cells; have d3 : w1.cell? ⟨bh, 3, none⟩ = some (.slice none 0 0) := h1.h.cell 3; have e0 : w1.cell? ⟨w.heap.size, 0, none⟩ = some (.pointer (some ⟨bs, 0, none⟩)) := (hb0.cell (by simp; omega)).trans (by simp)))
    have k33 := Lib.hid (writeByte_st h1 125 HL.out)
    have HB1 := Lib.hid hb1
    clear hb0 hb1 h1 H
    refine wp_loop_rounds 1 ?_
    rw [rounds_succ]
    go_wp2_with (go_at_call 33; go_must (refine k33.out.mono ?_; rintro e w2 ⟨rfl, h2, hbel2⟩))
    go_end0
    exact ⟨rfl, by simpa using h2, (HB1.out.mono HZ.out).trans hbel2⟩
end
end Go.Proofs.YtcbmphomacbmmaaDoor
