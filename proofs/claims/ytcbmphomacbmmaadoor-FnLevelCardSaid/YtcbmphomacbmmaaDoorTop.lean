/-
  line, TextLine, JSONLine (the package's and the thin package's) on a log without steps and attributes. Conditions: level from -4 to 8, a short message that needs no quoting, safeSet as its initialiser lays it.
-/
import Derived.Test.YtcbmphomacbmmaaDoorLine
import Derived.LoopTactic
import Derived.Deep.RegionHeld3
import Derived.Outline
namespace Go.Proofs.YtcbmphomacbmmaaDoor
open Go.RowKit

theorem attrs_nil (w : World) : Calls Tryd.prog 12 #[.slice none 0 0] w fun e w' => e = .returned (.slice none 0 0) ∧ w = w' := by
  go_enter Tryd.func12, Tryd.ntmps12
  go_wp2
  refine wp_loop_rounds 1 ?_
  rw [rounds_succ]
  go_wp2
  go_ret
  exact ⟨rfl, rfl⟩
theorem attrsOf_nil (w : World) : Calls Tryd.prog 16 #[.slice none 0 0] w fun e w' => e = .returned (.slice none 0 0) ∧ w = w' := by
  go_enter Tryd.func16, Tryd.ntmps16
  go_wp2
  refine wp_loop_rounds 1 ?_
  rw [rounds_succ]
  go_wp2
  go_ret
  exact ⟨rfl, rfl⟩
theorem addAttrs_nil (w : World) (a : Addr) : Calls Tryd.prog 17 #[.pointer (some a), .slice none 0 0] w fun e w' => e = .returned (.tuple #[]) ∧ w = w' := by
  go_enter Tryd.func17, Tryd.ntmps17
  go_wp2
  refine wp_loop_rounds 1 ?_
  rw [rounds_succ]
  go_wp2
  go_end0
  exact ⟨rfl, rfl⟩

set_option maxRecDepth 100000 in
set_option maxHeartbeats 2000000 in
theorem line_ok (w : World) (js : Bool) (n : Int) (msg : ByteArray) (hn0 : -4 ≤ n) (hn1 : n ≤ 8) (hm : okS msg) (hs : Safe w) (h0 : 0 < w.heap.size) :
    Calls Tryd.prog 11 #[.agg #[.int .i64 n, .string msg, .slice none 0 0, .slice none 0 0], .bool js] w fun e w' => e = .returned (.string ⟨(lineOf js n msg).toArray⟩) ∧ Below w.heap.size w w' := by
  have HS := Lib.hid hs
  clear hs
  go_enter Tryd.func11, Tryd.ntmps11
  go_wp2
  refine wp_loop_rounds 1 ?_
  rw [rounds_succ]
  go_wp2_with (first | (go_at_call 16; go_must (refine (attrsOf_nil _).mono ?_; rintro e w1 ⟨rfl, rfl⟩)) | (go_at_call 17; go_must (refine (addAttrs_nil _ _).mono ?_; rintro e w1 ⟨rfl, rfl⟩)))
  have hB : Below w.heap.size w (((w.alloc (.cells #[.int .i64 n, .string msg, .slice none 0 0, .slice none 0 0] 34)).alloc (.cells #[.bool js, .slice none 0 0, .string ⟨#[]⟩, .slice none 0 0, .int .i64 0] 47)).alloc (.cells #[.string msg, .int .i64 n, .slice none 0 0] 54)) :=
    (((Below.refl _ w).alloc (Nat.le_refl _) _).alloc (by simp) _).alloc (by simp; omega) _
  have hh : Blk (((w.alloc (.cells #[.int .i64 n, .string msg, .slice none 0 0, .slice none 0 0] 34)).alloc (.cells #[.bool js, .slice none 0 0, .string ⟨#[]⟩, .slice none 0 0, .int .i64 0] 47)).alloc (.cells #[.string msg, .int .i64 n, .slice none 0 0] 54))
      (w.heap.size + 1) 47 #[.bool js, .slice none 0 0, .string ⟨#[]⟩, .slice none 0 0, .int .i64 0] := by
    refine Blk.alloc ?_ _
    have h := Blk.new (w.alloc (.cells #[.int .i64 n, .string msg, .slice none 0 0, .slice none 0 0] 34)) 47 #[.bool js, .slice none 0 0, .string ⟨#[]⟩, .slice none 0 0, .int .i64 0]
    simpa using h
  have k18 := Lib.hid (handle_ok _ (w.heap.size + 1) js n msg hh hn0 hn1 hm (HS.out.below hB h0))
  have HB := Lib.hid hB
  clear hB hh hm
  go_wp2_with (go_at_call 18; go_must (refine k18.out.mono ?_; rintro e w1 ⟨rfl, hb1⟩))
  go_ret
  exact ⟨rfl, HB.out.trans (hb1.mono (by simp; omega))⟩

set_option maxRecDepth 100000 in
set_option maxHeartbeats 2000000 in
theorem log_ok (w : World) (n : Int) (msg : ByteArray) :
    Calls Tryd.prog 9 #[.agg #[.int .i64 n, .string msg, .slice none 0 0, .slice none 0 0]] w fun e w' => e = .returned (.agg #[.int .i64 n, .string msg, .slice none 0 0, .slice none 0 0]) ∧ Below w.heap.size w w' := by
  go_enter Tryd.func9, Tryd.ntmps9
  go_wp2_with fail
  go_region_held3 (fun w' => w'.cell? ⟨w.heap.size, 0, none⟩ = some (.int .i64 n) ∧ w'.cell? ⟨w.heap.size, 1, none⟩ = some (.string msg) ∧ w'.cell? ⟨w.heap.size, 3, none⟩ = some (.slice none 0 0))
    (go_keep)
    ((go_at_call 12; refine (attrs_nil _).mono ?_; rintro e w1 ⟨rfl, rfl⟩))
  all_goals
    go_wp2
    refine wp_loop_rounds 1 ?_
    rw [rounds_succ]
    go_wp2
    refine bodyPost_ret (v := .agg #[.int .i64 n, .string msg, .slice none 0 0, .slice none 0 0]) (by simp [results, Tryd.results9, go_sem]) rfl ⟨rfl, ?_⟩
    exact ((((Below.refl _ w).alloc (Nat.le_refl _) _).alloc (by simp) _).alloc (by simp; omega) _).drew

/-- a line, from the thin package's own types. -/
def Gives (w : World) (js : Bool) (n : Int) (msg : ByteArray) (e : Ending) (w' : World) : Prop := e = .returned (.string ⟨(lineOf js n msg).toArray⟩) ∧ Below w.heap.size w w'

theorem textLine_ok (w : World) (n : Int) (msg : ByteArray) (hn0 : -4 ≤ n) (hn1 : n ≤ 8) (hm : okS msg) (hs : Safe w) (h0 : 0 < w.heap.size) :
    Calls Tryd.prog 5 #[.agg #[.int .i64 n, .string msg, .slice none 0 0, .slice none 0 0]] w (Gives w false n msg) := by
  have HS := Lib.hid hs
  have HM := Lib.hid hm
  clear hs hm
  go_enter Tryd.func5, Tryd.ntmps5
  go_wp2_with (first | (go_at_call 9; go_must (refine (log_ok _ n msg).mono ?_; rintro e w1 ⟨rfl, hb1⟩)) | (go_at_call 8; go_in))
  have hB : Below w.heap.size w (w1.alloc (.cells #[.int .i64 n, .string msg, .slice none 0 0, .slice none 0 0] 34)) :=
    (((Below.refl _ w).alloc (Nat.le_refl _) _).trans (hb1.mono (by simp))).alloc (by have := hb1.size; simp at this; omega) _
  have k11 := Lib.hid (line_ok _ false n msg hn0 hn1 HM.out (HS.out.below hB h0) (by simp))
  have HB := Lib.hid hB
  clear hb1 hB
  go_wp2_with (go_at_call 11; go_must (refine k11.out.mono ?_; rintro e w2 ⟨rfl, hb2⟩))
  go_ret
  exact ⟨rfl, HB.out.trans (hb2.mono HB.out.size)⟩

theorem jsonLine_ok (w : World) (n : Int) (msg : ByteArray) (hn0 : -4 ≤ n) (hn1 : n ≤ 8) (hm : okS msg) (hs : Safe w) (h0 : 0 < w.heap.size) :
    Calls Tryd.prog 10 #[.agg #[.int .i64 n, .string msg, .slice none 0 0, .slice none 0 0]] w (Gives w true n msg) := by
  have HS := Lib.hid hs
  have HM := Lib.hid hm
  clear hs hm
  go_enter Tryd.func10, Tryd.ntmps10
  go_wp2_with (first | (go_at_call 9; go_must (refine (log_ok _ n msg).mono ?_; rintro e w1 ⟨rfl, hb1⟩)) | (go_at_call 13; go_in))
  have hB : Below w.heap.size w (w1.alloc (.cells #[.int .i64 n, .string msg, .slice none 0 0, .slice none 0 0] 34)) :=
    (((Below.refl _ w).alloc (Nat.le_refl _) _).trans (hb1.mono (by simp))).alloc (by have := hb1.size; simp at this; omega) _
  have k11 := Lib.hid (line_ok _ true n msg hn0 hn1 HM.out (HS.out.below hB h0) (by simp))
  have HB := Lib.hid hB
  clear hb1 hB
  go_wp2_with (go_at_call 11; go_must (refine k11.out.mono ?_; rintro e w2 ⟨rfl, hb2⟩))
  go_ret
  exact ⟨rfl, HB.out.trans (hb2.mono HB.out.size)⟩

def msgA : ByteArray := ⟨#[97]⟩
theorem msgA_ok : okS msgA := okS_of _ (by decide) (by decide) (by decide)
def preL : ByteArray := ⟨#[108, 101, 118, 101, 108, 61]⟩
def postL : ByteArray := ⟨#[32, 109, 115, 103, 61, 97, 10]⟩
theorem textA_eq (n : Int) (h0 : -4 ≤ n) (h1 : n ≤ 8) : (⟨(lineOf false n msgA).toArray⟩ : ByteArray) = ⟨#[108, 101, 118, 101, 108, 61]⟩ ++ lvl n ++ ⟨#[32, 109, 115, 103, 61, 97, 10]⟩ := by
  rcases cases13 n h0 h1 with rfl | rfl | rfl | rfl | rfl | rfl | rfl | rfl | rfl | rfl | rfl | rfl | rfl
  all_goals rfl
theorem textW_eq : (⟨(lineOf false 0 msgA).toArray⟩ : ByteArray) = ⟨#[108, 101, 118, 101, 108, 61, 73, 78, 70, 79, 32, 109, 115, 103, 61, 97, 10]⟩ := rfl
theorem jsonW_eq : (⟨(lineOf true 0 msgA).toArray⟩ : ByteArray) = ⟨#[123, 34, 108, 101, 118, 101, 108, 34, 58, 34, 73, 78, 70, 79, 34, 44, 34, 109, 115, 103, 34, 58, 34, 97, 34, 125, 10]⟩ := rfl

set_option maxRecDepth 100000 in
set_option maxHeartbeats 1000000 in
theorem works_ok (w : World) (hs : Safe w) (h0 : 0 < w.heap.size) : Calls Tryd.prog 7 #[] w fun e w' => e = .returned (.bool true) ∧ Below w.heap.size w w' := by
  have hB := (Below.refl w.heap.size w).alloc (Nat.le_refl _) (.cells #[.int .i64 0, .string ⟨#[97]⟩, .slice none 0 0, .slice none 0 0] 27)
  have k5 := Lib.hid (textLine_ok _ 0 msgA (by omega) (by omega) msgA_ok (hs.below hB h0) (by simp))
  have HS := Lib.hid hs
  have HB := Lib.hid hB
  clear hs hB
  go_enter Tryd.func7, Tryd.ntmps7
  go_wp2_with (first | (go_at_call 5; go_must (refine k5.out.mono ?_; rintro e w1 ⟨rfl, hb1⟩; rw [textW_eq]; have hB1 := HB.out.trans (hb1.mono (by simp)); have k10 := Lib.hid (jsonLine_ok _ 0 msgA (by omega) (by omega) msgA_ok (HS.out.below hB1 h0) (by have := hB1.size; omega)); have c0 : w1.cell? ⟨w.heap.size, 0, none⟩ = some (.int .i64 0) := (hb1.cell (by simp)).trans (by simp); have c1 : w1.cell? ⟨w.heap.size, 1, none⟩ = some (.string ⟨#[97]⟩) := (hb1.cell (by simp)).trans (by simp); have c2 : w1.cell? ⟨w.heap.size, 2, none⟩ = some (.slice none 0 0) := (hb1.cell (by simp)).trans (by simp); have c3 : w1.cell? ⟨w.heap.size, 3, none⟩ = some (.slice none 0 0) := (hb1.cell (by simp)).trans (by simp); have HB1 := Lib.hid hB1; clear hb1 hB1)) | (go_at_call 10; go_must (refine k10.out.mono ?_; rintro e w2 ⟨rfl, hb2⟩; rw [jsonW_eq])))
  go_ret
  exact ⟨rfl, HB1.out.trans (hb2.mono HB1.out.size)⟩
end Go.Proofs.YtcbmphomacbmmaaDoor
