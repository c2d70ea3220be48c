/-
  FSmall: laws_zzFits1, spec_InRange, laws_begins, AS print.sh OF THE KIT WROTE THEM FOR THIS SEAT (taken out of its texts by extract.py, each function by itself): the Lean function and the proof that the Go function comes to its answers. No condition beyond those in the statements.
  FSize: spec_size, AS print.sh OF THE KIT WROTE IT FOR THIS SEAT (taken out of its texts by extract.py, each function by itself): the Lean function and the proof that the Go function comes to its answers. No condition beyond those in the statements.
  FHex: spec_hex, AS print.sh OF THE KIT WROTE IT FOR THIS SEAT (taken out of its texts by extract.py, each function by itself): the Lean function and the proof that the Go function comes to its answers. No condition beyond those in the statements.
  FCoerced: spec_Coerced, AS print.sh OF THE KIT WROTE IT FOR THIS SEAT (taken out of its texts by extract.py, each function by itself): the Lean function and the proof that the Go function comes to its answers. No condition beyond those in the statements.
  FUtf: spec_utf8, AS print.sh OF THE KIT WROTE IT FOR THIS SEAT (taken out of its texts by extract.py, each function by itself): the Lean function and the proof that the Go function comes to its answers. No condition beyond those in the statements.
-/
import Derived.Test.YtcllhgajdcemiaaGreatDoorWd
namespace Go.Proofs.YtcllhgajdcemiaaGreatDoor.PFnJSONBack
open Go.RowKit Go.Proofs.YtcllhgajdcemiaaGreatDoorW.PrintWords Go.Proofs.YtcllhgajdcemiaaGreatDoorW.PrintLast Go.Proofs.YtcllhgajdcemiaaGreatDoorW.PrintMore
attribute [local go_sem] max2_int min2_int max_two min_two max_three min_three max_four min_four
set_option linter.unusedVariables false
set_option linter.unusedSimpArgs false

/-! ### laws_zzFits1: function 5 -/
def laws_zzFits1.f (a0_0 : Int) (a0_1 : ByteArray) (l0_2 : List (S36)) (l0_3 : List (S34)) : Option (Bool) := if (a0_1.size : Int) > 2147483647 then (some false) else (if (l0_2.length : Int) > 2147483647 then (some false) else (if (l0_3.length : Int) > 2147483647 then (some false) else (some true)))
set_option maxHeartbeats 8000000 in
set_option maxRecDepth 100000 in
theorem laws_zzFits1.calls (a0_0 : Int) (a0_1 : ByteArray) (A0_2 : Option Addr) (c0_2 : Nat) (l0_2 : List (S36)) (A0_3 : Option Addr) (c0_3 : Nat) (l0_3 : List (S34)) (r : Bool) (w : World) (hr0_2 : Kd.C k36 w A0_2 l0_2.length l0_2) (hc0_2 : l0_2.length ≤ c0_2) (hr0_3 : Kd.C k34 w A0_3 l0_3.length l0_3) (hc0_3 : l0_3.length ≤ c0_3) (h : laws_zzFits1.f a0_0 a0_1 l0_2 l0_3 = some r) :
    Calls Tryz.prog 5 #[.agg #[.int .i64 a0_0, .string a0_1, .slice A0_2 l0_2.length c0_2, .slice A0_3 l0_3.length c0_3]] w fun e w' => e = .returned (.bool r) ∧ Below w.heap.size w w' := by
  have hu25 := Tryz.underlying25
  have HR0_2 := Aside0.mk hr0_2
  have HC0_2 := Aside0.mk hc0_2
  clear hr0_2 hc0_2
  have HR0_3 := Aside0.mk hr0_3
  have HC0_3 := Aside0.mk hc0_3
  clear hr0_3 hc0_3
  have HB := Aside0.mk (Below.refl w.heap.size w)
  have H : (if (a0_1.size : Int) > 2147483647 then (some false) else (if (l0_2.length : Int) > 2147483647 then (some false) else (if (l0_3.length : Int) > 2147483647 then (some false) else (some true)))) = some r := h
  clear h
  by_cases c2 : (a0_1.size : Int) > 2147483647
  · rw [if_pos c2] at H
    have c2b0 : decide (2147483647 < (a0_1.size : Int)) = true := decide_eq_true c2
    have c2b1 : decide (2147483647 < a0_1.size) = true := decide_eq_true (by omega)
    clear c2
    obtain rfl := Option.some.inj H
    go_enter Tryz.func5, Tryz.ntmps5
    go_wp2_with (first | ((with_reducible refine gate_dst (N := 1) rfl ?_); refine box_event ?hg (N := 1) ?hd (cs := #[.int .i64 a0_0, .string a0_1, .slice A0_2 l0_2.length c0_2, .slice A0_3 l0_3.length c0_3]) (t := 25) ?hr ?_; (case hd => rfl); (case hg => rfl); (case hr => first | (go_simp; done) | (go_simp; rfl)); intro gb101 hg w3 hbox hb; have n0_ := Aside0.mk (below_step (by repeat (first | (with_reducible first | exact HB.out | apply below_alloc | apply pw_below_drewN | apply below_drew1) | exact HB.out)) hb); have n1_ := Aside0.mk (hbox); have n2_ := Aside0.mk ((by rw [hg]; exact (below_size (by repeat (first | (with_reducible first | exact HB.out | apply below_alloc | apply pw_below_drewN | apply below_drew1) | exact HB.out))) : w.heap.size ≤ gb101)); have n3_ := Aside0.mk ((by rw [hg]; exact (below_size (by repeat (first | (with_reducible first | exact HB.out | apply below_alloc | apply pw_below_drewN | apply below_drew1) | exact HB.out))) : w.heap.size ≤ gb101)); clear HB; have HB := n0_; have BK101 := n1_; have GW101 := n2_; have GE101 := n3_; clear n0_ n1_ n2_ n3_; clear hb hbox hg; have hcz4_0 : w3.cell? ⟨gb101, 0, none⟩ = some (.int .i64 a0_0) := (blk_cell BK101.out 0).trans rfl; have hcz4_1 : w3.cell? ⟨gb101, 1, none⟩ = some (.string a0_1) := (blk_cell BK101.out 1).trans rfl; have hcz4_2 : w3.cell? ⟨gb101, 2, none⟩ = some (.slice A0_2 l0_2.length c0_2) := (blk_cell BK101.out 2).trans rfl; have hcz4_3 : w3.cell? ⟨gb101, 3, none⟩ = some (.slice A0_3 l0_3.length c0_3) := (blk_cell BK101.out 3).trans rfl; have hfz4_0 := blk_frozen BK101.out 0; have hfz4_1 := blk_frozen BK101.out 1; have hfz4_2 := blk_frozen BK101.out 2; have hfz4_3 := blk_frozen BK101.out 3))
    go_ret
    exact ⟨by first | rfl | (simp [errW_none, errW_some] <;> rfl) | (simp [*, errW_none, errW_some] <;> rfl), by repeat (first | (with_reducible first | exact HB.out | apply below_alloc | apply pw_below_drewN | apply below_drew1 | refine below_set ?_ GE101.out) | exact HB.out)⟩
  · rw [if_neg c2] at H
    have c2b0 : decide (2147483647 < (a0_1.size : Int)) = false := decide_eq_false c2
    have c2b1 : decide (2147483647 < a0_1.size) = false := decide_eq_false (by omega)
    clear c2
    by_cases c5 : (l0_2.length : Int) > 2147483647
    · rw [if_pos c5] at H
      have c5b0 : decide (2147483647 < (l0_2.length : Int)) = true := decide_eq_true c5
      have c5b1 : decide (2147483647 < l0_2.length) = true := decide_eq_true (by omega)
      clear c5
      obtain rfl := Option.some.inj H
      go_enter Tryz.func5, Tryz.ntmps5
      go_wp2_with (first | ((with_reducible refine gate_dst (N := 1) rfl ?_); refine box_event ?hg (N := 1) ?hd (cs := #[.int .i64 a0_0, .string a0_1, .slice A0_2 l0_2.length c0_2, .slice A0_3 l0_3.length c0_3]) (t := 25) ?hr ?_; (case hd => rfl); (case hg => rfl); (case hr => first | (go_simp; done) | (go_simp; rfl)); intro gb101 hg w6 hbox hb; have n0_ := Aside0.mk (below_step (by repeat (first | (with_reducible first | exact HB.out | apply below_alloc | apply pw_below_drewN | apply below_drew1) | exact HB.out)) hb); have n1_ := Aside0.mk (hbox); have n2_ := Aside0.mk ((by rw [hg]; exact (below_size (by repeat (first | (with_reducible first | exact HB.out | apply below_alloc | apply pw_below_drewN | apply below_drew1) | exact HB.out))) : w.heap.size ≤ gb101)); have n3_ := Aside0.mk ((by rw [hg]; exact (below_size (by repeat (first | (with_reducible first | exact HB.out | apply below_alloc | apply pw_below_drewN | apply below_drew1) | exact HB.out))) : w.heap.size ≤ gb101)); clear HB; have HB := n0_; have BK101 := n1_; have GW101 := n2_; have GE101 := n3_; clear n0_ n1_ n2_ n3_; clear hb hbox hg; have hcz7_0 : w6.cell? ⟨gb101, 0, none⟩ = some (.int .i64 a0_0) := (blk_cell BK101.out 0).trans rfl; have hcz7_1 : w6.cell? ⟨gb101, 1, none⟩ = some (.string a0_1) := (blk_cell BK101.out 1).trans rfl; have hcz7_2 : w6.cell? ⟨gb101, 2, none⟩ = some (.slice A0_2 l0_2.length c0_2) := (blk_cell BK101.out 2).trans rfl; have hcz7_3 : w6.cell? ⟨gb101, 3, none⟩ = some (.slice A0_3 l0_3.length c0_3) := (blk_cell BK101.out 3).trans rfl; have hfz7_0 := blk_frozen BK101.out 0; have hfz7_1 := blk_frozen BK101.out 1; have hfz7_2 := blk_frozen BK101.out 2; have hfz7_3 := blk_frozen BK101.out 3))
      go_ret
      exact ⟨by first | rfl | (simp [errW_none, errW_some] <;> rfl) | (simp [*, errW_none, errW_some] <;> rfl), by repeat (first | (with_reducible first | exact HB.out | apply below_alloc | apply pw_below_drewN | apply below_drew1 | refine below_set ?_ GE101.out) | exact HB.out)⟩
    · rw [if_neg c5] at H
      have c5b0 : decide (2147483647 < (l0_2.length : Int)) = false := decide_eq_false c5
      have c5b1 : decide (2147483647 < l0_2.length) = false := decide_eq_false (by omega)
      clear c5
      by_cases c8 : (l0_3.length : Int) > 2147483647
      · rw [if_pos c8] at H
        have c8b0 : decide (2147483647 < (l0_3.length : Int)) = true := decide_eq_true c8
        have c8b1 : decide (2147483647 < l0_3.length) = true := decide_eq_true (by omega)
        clear c8
        obtain rfl := Option.some.inj H
        go_enter Tryz.func5, Tryz.ntmps5
        go_wp2_with (first | ((with_reducible refine gate_dst (N := 1) rfl ?_); refine box_event ?hg (N := 1) ?hd (cs := #[.int .i64 a0_0, .string a0_1, .slice A0_2 l0_2.length c0_2, .slice A0_3 l0_3.length c0_3]) (t := 25) ?hr ?_; (case hd => rfl); (case hg => rfl); (case hr => first | (go_simp; done) | (go_simp; rfl)); intro gb101 hg w9 hbox hb; have n0_ := Aside0.mk (below_step (by repeat (first | (with_reducible first | exact HB.out | apply below_alloc | apply pw_below_drewN | apply below_drew1) | exact HB.out)) hb); have n1_ := Aside0.mk (hbox); have n2_ := Aside0.mk ((by rw [hg]; exact (below_size (by repeat (first | (with_reducible first | exact HB.out | apply below_alloc | apply pw_below_drewN | apply below_drew1) | exact HB.out))) : w.heap.size ≤ gb101)); have n3_ := Aside0.mk ((by rw [hg]; exact (below_size (by repeat (first | (with_reducible first | exact HB.out | apply below_alloc | apply pw_below_drewN | apply below_drew1) | exact HB.out))) : w.heap.size ≤ gb101)); clear HB; have HB := n0_; have BK101 := n1_; have GW101 := n2_; have GE101 := n3_; clear n0_ n1_ n2_ n3_; clear hb hbox hg; have hcz10_0 : w9.cell? ⟨gb101, 0, none⟩ = some (.int .i64 a0_0) := (blk_cell BK101.out 0).trans rfl; have hcz10_1 : w9.cell? ⟨gb101, 1, none⟩ = some (.string a0_1) := (blk_cell BK101.out 1).trans rfl; have hcz10_2 : w9.cell? ⟨gb101, 2, none⟩ = some (.slice A0_2 l0_2.length c0_2) := (blk_cell BK101.out 2).trans rfl; have hcz10_3 : w9.cell? ⟨gb101, 3, none⟩ = some (.slice A0_3 l0_3.length c0_3) := (blk_cell BK101.out 3).trans rfl; have hfz10_0 := blk_frozen BK101.out 0; have hfz10_1 := blk_frozen BK101.out 1; have hfz10_2 := blk_frozen BK101.out 2; have hfz10_3 := blk_frozen BK101.out 3))
        go_ret
        exact ⟨by first | rfl | (simp [errW_none, errW_some] <;> rfl) | (simp [*, errW_none, errW_some] <;> rfl), by repeat (first | (with_reducible first | exact HB.out | apply below_alloc | apply pw_below_drewN | apply below_drew1 | refine below_set ?_ GE101.out) | exact HB.out)⟩
      · rw [if_neg c8] at H
        have c8b0 : decide (2147483647 < (l0_3.length : Int)) = false := decide_eq_false c8
        have c8b1 : decide (2147483647 < l0_3.length) = false := decide_eq_false (by omega)
        clear c8
        obtain rfl := Option.some.inj H
        go_enter Tryz.func5, Tryz.ntmps5
        go_wp2_with (first | ((with_reducible refine gate_dst (N := 1) rfl ?_); refine box_event ?hg (N := 1) ?hd (cs := #[.int .i64 a0_0, .string a0_1, .slice A0_2 l0_2.length c0_2, .slice A0_3 l0_3.length c0_3]) (t := 25) ?hr ?_; (case hd => rfl); (case hg => rfl); (case hr => first | (go_simp; done) | (go_simp; rfl)); intro gb101 hg w11 hbox hb; have n0_ := Aside0.mk (below_step (by repeat (first | (with_reducible first | exact HB.out | apply below_alloc | apply pw_below_drewN | apply below_drew1) | exact HB.out)) hb); have n1_ := Aside0.mk (hbox); have n2_ := Aside0.mk ((by rw [hg]; exact (below_size (by repeat (first | (with_reducible first | exact HB.out | apply below_alloc | apply pw_below_drewN | apply below_drew1) | exact HB.out))) : w.heap.size ≤ gb101)); have n3_ := Aside0.mk ((by rw [hg]; exact (below_size (by repeat (first | (with_reducible first | exact HB.out | apply below_alloc | apply pw_below_drewN | apply below_drew1) | exact HB.out))) : w.heap.size ≤ gb101)); clear HB; have HB := n0_; have BK101 := n1_; have GW101 := n2_; have GE101 := n3_; clear n0_ n1_ n2_ n3_; clear hb hbox hg; have hcz12_0 : w11.cell? ⟨gb101, 0, none⟩ = some (.int .i64 a0_0) := (blk_cell BK101.out 0).trans rfl; have hcz12_1 : w11.cell? ⟨gb101, 1, none⟩ = some (.string a0_1) := (blk_cell BK101.out 1).trans rfl; have hcz12_2 : w11.cell? ⟨gb101, 2, none⟩ = some (.slice A0_2 l0_2.length c0_2) := (blk_cell BK101.out 2).trans rfl; have hcz12_3 : w11.cell? ⟨gb101, 3, none⟩ = some (.slice A0_3 l0_3.length c0_3) := (blk_cell BK101.out 3).trans rfl; have hfz12_0 := blk_frozen BK101.out 0; have hfz12_1 := blk_frozen BK101.out 1; have hfz12_2 := blk_frozen BK101.out 2; have hfz12_3 := blk_frozen BK101.out 3))
        go_ret
        exact ⟨by first | rfl | (simp [errW_none, errW_some] <;> rfl) | (simp [*, errW_none, errW_some] <;> rfl), by repeat (first | (with_reducible first | exact HB.out | apply below_alloc | apply pw_below_drewN | apply below_drew1 | refine below_set ?_ GE101.out) | exact HB.out)⟩

-- NOT PRINTED: function 14 (spec_Nested)


/-! ### spec_InRange: function 15 -/
def spec_InRange.f (a0 : Int) : Option (Bool) := if a0 ≥ (-4) then (some (decide (a0 ≤ 8))) else (some false)
set_option maxHeartbeats 8000000 in
set_option maxRecDepth 100000 in
theorem spec_InRange.calls (a0 : Int) (r : Bool) (w : World) (h : spec_InRange.f a0 = some r) :
    Calls Tryz.prog 15 #[.int .i64 a0] w fun e w' => e = .returned (.bool r) ∧ Drawn0 w w' := by
  have H : (if a0 ≥ (-4) then (some (decide (a0 ≤ 8))) else (some false)) = some r := h
  clear h
  by_cases c2 : a0 ≥ (-4)
  · rw [if_pos c2] at H
    have c2b0 : decide ((-4) ≤ a0) = true := decide_eq_true c2
    clear c2
    obtain rfl := Option.some.inj H
    go_enter Tryz.func15, Tryz.ntmps15
    go_wp2
    go_ret
    exact ⟨by first | rfl | (simp; done) | (simp [*]; done), by repeat (first | exact Drawn0.refl _ | apply Drawn0.step)⟩
  · rw [if_neg c2] at H
    have c2b0 : decide ((-4) ≤ a0) = false := decide_eq_false c2
    clear c2
    obtain rfl := Option.some.inj H
    go_enter Tryz.func15, Tryz.ntmps15
    go_wp2
    go_ret
    exact ⟨by first | rfl | (simp; done) | (simp [*]; done), by repeat (first | exact Drawn0.refl _ | apply Drawn0.step)⟩


/-! ### laws_begins: function 12 -/
def laws_begins.f (a0 : ByteArray) (a1 : ByteArray) : Option (Bool) := if (a0.size : Int) ≥ (a1.size : Int) then (if 0 ≤ (a1.size : Int) then (if (a1.size : Int) ≤ (a0.size : Int) then (some ((a0.extract 0 ((a1.size : Int) : Int).toNat).toList == a1.toList)) else (none)) else (none)) else (some false)
set_option maxHeartbeats 8000000 in
set_option maxRecDepth 100000 in
theorem laws_begins.calls (a0 : ByteArray) (a1 : ByteArray) (r : Bool) (w : World) (h : laws_begins.f a0 a1 = some r) :
    Calls Tryz.prog 12 #[.string a0, .string a1] w fun e w' => e = .returned (.bool r) ∧ Drawn0 w w' := by
  have H : (if (a0.size : Int) ≥ (a1.size : Int) then (if 0 ≤ (a1.size : Int) then (if (a1.size : Int) ≤ (a0.size : Int) then (some ((a0.extract 0 ((a1.size : Int) : Int).toNat).toList == a1.toList)) else (none)) else (none)) else (some false)) = some r := h
  clear h
  by_cases c3 : (a0.size : Int) ≥ (a1.size : Int)
  · rw [if_pos c3] at H
    have c3b0 : decide ((a1.size : Int) ≤ (a0.size : Int)) = true := decide_eq_true c3
    have c3b1 : decide (a1.size ≤ a0.size) = true := decide_eq_true (Int.ofNat_le.mp c3)
    clear c3
    by_cases c4 : 0 ≤ (a1.size : Int)
    · rw [if_pos c4] at H
      have c4b0 := eq_true c4
      have c4b1 : decide (0 ≤ (a1.size : Int)) = true := decide_eq_true c4
      clear c4
      by_cases c5 : (a1.size : Int) ≤ (a0.size : Int)
      · rw [if_pos c5] at H
        have c5b0 := eq_true c5
        have c5b1 : decide ((a1.size : Int) ≤ (a0.size : Int)) = true := decide_eq_true c5
        clear c5
        obtain rfl := Option.some.inj H
        go_enter Tryz.func12, Tryz.ntmps12
        go_wp2
        go_ret
        exact ⟨by first | rfl | (simp; done) | (simp [*]; done), by repeat (first | exact Drawn0.refl _ | apply Drawn0.step)⟩
      · rw [if_neg c5] at H
        exact absurd H (by simp)
    · rw [if_neg c4] at H
      exact absurd H (by simp)
  · rw [if_neg c3] at H
    have c3b0 : decide ((a1.size : Int) ≤ (a0.size : Int)) = false := decide_eq_false c3
    have c3b1 : decide (a1.size ≤ a0.size) = false := decide_eq_false (fun h => c3 (Int.ofNat_le.mpr h))
    clear c3
    obtain rfl := Option.some.inj H
    go_enter Tryz.func12, Tryz.ntmps12
    go_wp2
    go_ret
    exact ⟨by first | rfl | (simp; done) | (simp [*]; done), by repeat (first | exact Drawn0.refl _ | apply Drawn0.step)⟩


end Go.Proofs.YtcllhgajdcemiaaGreatDoor.PFnJSONBack

namespace Go.Proofs.YtcllhgajdcemiaaGreatDoor.PFnJSONBack
open Go.RowKit Go.Proofs.YtcllhgajdcemiaaGreatDoorW.PrintWords Go.Proofs.YtcllhgajdcemiaaGreatDoorW.PrintLast Go.Proofs.YtcllhgajdcemiaaGreatDoorW.PrintMore
attribute [local go_sem] max2_int min2_int max_two min_two max_three min_three max_four min_four
set_option linter.unusedVariables false
set_option linter.unusedSimpArgs false

/-! ### spec_size: function 25 -/
mutual
def spec_size.j2 : Nat → ByteArray → Int → Int → Int → Option (Int)
  | 0, _, _, _, _ => none
  | k + 1, x0, x3, x4, x5 => if (x0.size : Int) < x4 then (some 0) else (spec_size.l0 k x0 x3 x4 x5 1)
def spec_size.l0 : Nat → ByteArray → Int → Int → Int → Int → Option (Int)
  | 0, _, _, _, _, _ => none
  | k + 1, x0, x3, x4, x5, x6 => if x6 < x4 then (if 0 ≤ x6 then (if x6 < (x0.size : Int) then (if (Go.bits .and .u8 (bt x0 x6) 192) = 128 then (spec_size.l0 k x0 (Go.bits .or .i64 (wrap64 (x3 * 64)) (wrap64 (Go.bits .and .u8 (bt x0 x6) 63))) x4 x5 (wrap64 (x6 + 1))) else (some 0)) else (none)) else (none)) else (if x3 < x5 then (some 0) else (if x3 > 1114111 then (some 0) else (if x3 ≥ 55296 then (if x3 ≤ 57343 then (some 0) else (some x4)) else (some x4))))
def spec_size.j0 : Nat → ByteArray → Int → Bool → Option (Int)
  | 0, _, _, _ => none
  | k + 1, x0, x3, x13 => if x13 = true then (spec_size.j2 k x0 (Go.bits .and .i64 x3 31) 2 128) else (if x3 ≥ 224 then (spec_size.j1 k x0 x3 (decide (x3 < 240))) else (spec_size.j1 k x0 x3 false))
def spec_size.j1 : Nat → ByteArray → Int → Bool → Option (Int)
  | 0, _, _, _ => none
  | k + 1, x0, x3, x22 => if x22 = true then (spec_size.j2 k x0 (Go.bits .and .i64 x3 15) 3 2048) else (if x3 ≥ 240 then (if x3 < 245 then (spec_size.j2 k x0 (Go.bits .and .i64 x3 7) 4 65536) else (some 0)) else (some 0))
end
def spec_size.f (k : Nat) (a0 : ByteArray) : Option (Int) := if 0 < (a0.size : Int) then (if (wrap64 (bt a0 0)) < 128 then (some 1) else (if (wrap64 (bt a0 0)) ≥ 194 then (spec_size.j0 k a0 (wrap64 (bt a0 0)) (decide ((wrap64 (bt a0 0)) < 224))) else (spec_size.j0 k a0 (wrap64 (bt a0 0)) false))) else (none)
theorem spec_size.mono_l : ∀ k, (∀ y0 y1 y2 y3, LeO (spec_size.j2 k y0 y1 y2 y3) (spec_size.j2 (k + 1) y0 y1 y2 y3)) ∧ (∀ y0 y1 y2 y3 y4, LeO (spec_size.l0 k y0 y1 y2 y3 y4) (spec_size.l0 (k + 1) y0 y1 y2 y3 y4)) ∧ (∀ y0 y1 y2, LeO (spec_size.j0 k y0 y1 y2) (spec_size.j0 (k + 1) y0 y1 y2)) ∧ (∀ y0 y1 y2, LeO (spec_size.j1 k y0 y1 y2) (spec_size.j1 (k + 1) y0 y1 y2))
  | 0 => ⟨fun _ _ _ _ r h => by simp [spec_size.j2] at h, fun _ _ _ _ _ r h => by simp [spec_size.l0] at h, fun _ _ _ r h => by simp [spec_size.j0] at h, fun _ _ _ r h => by simp [spec_size.j1] at h⟩
  | k + 1 => by
    obtain ⟨ih0, ih1, ih2, ih3⟩ := spec_size.mono_l k
    refine ⟨?_, ?_, ?_, ?_⟩
    · intro y0 y1 y2 y3
      unfold spec_size.j2
      repeat' first
      | (with_reducible exact ih0 _ _ _ _)
      | (with_reducible exact ih1 _ _ _ _ _)
      | (with_reducible exact ih2 _ _ _)
      | (with_reducible exact ih3 _ _ _)
      | (with_reducible exact LeO.refl _)
      | (with_reducible exact LeO.none _)
      | (with_reducible refine LeO.ite ?_ ?_)
      | (with_reducible refine LeO.bind ?_ (fun _ => ?_))
      | exact ih0 _ _ _ _
      | exact ih1 _ _ _ _ _
      | exact ih2 _ _ _
      | exact ih3 _ _ _
      | exact LeO.none _
      | refine LeO.ite ?_ ?_
      | refine LeO.bind ?_ (fun _ => ?_)
    · intro y0 y1 y2 y3 y4
      unfold spec_size.l0
      repeat' first
      | (with_reducible exact ih0 _ _ _ _)
      | (with_reducible exact ih1 _ _ _ _ _)
      | (with_reducible exact ih2 _ _ _)
      | (with_reducible exact ih3 _ _ _)
      | (with_reducible exact LeO.refl _)
      | (with_reducible exact LeO.none _)
      | (with_reducible refine LeO.ite ?_ ?_)
      | (with_reducible refine LeO.bind ?_ (fun _ => ?_))
      | exact ih0 _ _ _ _
      | exact ih1 _ _ _ _ _
      | exact ih2 _ _ _
      | exact ih3 _ _ _
      | exact LeO.none _
      | refine LeO.ite ?_ ?_
      | refine LeO.bind ?_ (fun _ => ?_)
    · intro y0 y1 y2
      unfold spec_size.j0
      repeat' first
      | (with_reducible exact ih0 _ _ _ _)
      | (with_reducible exact ih1 _ _ _ _ _)
      | (with_reducible exact ih2 _ _ _)
      | (with_reducible exact ih3 _ _ _)
      | (with_reducible exact LeO.refl _)
      | (with_reducible exact LeO.none _)
      | (with_reducible refine LeO.ite ?_ ?_)
      | (with_reducible refine LeO.bind ?_ (fun _ => ?_))
      | exact ih0 _ _ _ _
      | exact ih1 _ _ _ _ _
      | exact ih2 _ _ _
      | exact ih3 _ _ _
      | exact LeO.none _
      | refine LeO.ite ?_ ?_
      | refine LeO.bind ?_ (fun _ => ?_)
    · intro y0 y1 y2
      unfold spec_size.j1
      repeat' first
      | (with_reducible exact ih0 _ _ _ _)
      | (with_reducible exact ih1 _ _ _ _ _)
      | (with_reducible exact ih2 _ _ _)
      | (with_reducible exact ih3 _ _ _)
      | (with_reducible exact LeO.refl _)
      | (with_reducible exact LeO.none _)
      | (with_reducible refine LeO.ite ?_ ?_)
      | (with_reducible refine LeO.bind ?_ (fun _ => ?_))
      | exact ih0 _ _ _ _
      | exact ih1 _ _ _ _ _
      | exact ih2 _ _ _
      | exact ih3 _ _ _
      | exact LeO.none _
      | refine LeO.ite ?_ ?_
      | refine LeO.bind ?_ (fun _ => ?_)
theorem spec_size.mono : ∀ a0 k, LeO (spec_size.f k a0) (spec_size.f (k + 1) a0) := by
  intro a0 k
  obtain ⟨ih0, ih1, ih2, ih3⟩ := spec_size.mono_l k
  unfold spec_size.f
  repeat' first
      | (with_reducible exact ih0 _ _ _ _)
      | (with_reducible exact ih1 _ _ _ _ _)
      | (with_reducible exact ih2 _ _ _)
      | (with_reducible exact ih3 _ _ _)
      | (with_reducible exact LeO.refl _)
      | (with_reducible exact LeO.none _)
      | (with_reducible refine LeO.ite ?_ ?_)
      | (with_reducible refine LeO.bind ?_ (fun _ => ?_))
      | exact ih0 _ _ _ _
      | exact ih1 _ _ _ _ _
      | exact ih2 _ _ _
      | exact ih3 _ _ _
      | exact LeO.none _
      | refine LeO.ite ?_ ?_
      | refine LeO.bind ?_ (fun _ => ?_)
set_option maxHeartbeats 8000000 in
set_option maxRecDepth 100000 in
theorem spec_size.calls (k : Nat) (a0 : ByteArray) (r : Int) (w : World) (h : spec_size.f k a0 = some r) :
    Calls Tryz.prog 25 #[.string a0] w fun e w' => e = .returned (.int .i64 r) ∧ Drawn0 w w' := by
  have H : (if 0 < (a0.size : Int) then (if (wrap64 (bt a0 0)) < 128 then (some 1) else (if (wrap64 (bt a0 0)) ≥ 194 then (spec_size.j0 k a0 (wrap64 (bt a0 0)) (decide ((wrap64 (bt a0 0)) < 224))) else (spec_size.j0 k a0 (wrap64 (bt a0 0)) false))) else (none)) = some r := h
  clear h
  by_cases c2 : 0 < (a0.size : Int)
  · rw [if_pos c2] at H
    have c2b0 : decide (0 < (a0.size : Int)) = true := decide_eq_true c2
    have c2b1 : decide (0 < a0.size) = true := decide_eq_true (by omega)
    clear c2
    have HC4 := Aside0.mk H
    clear H
    have p3 : 0 ≤ (0 : Int) := (by omega)
    have q3 : 0 < a0.size := (by have : (0 : Int) < (a0.size : Int) := of_decide_eq_true (by first | (with_reducible assumption) | assumption); omega)
    have hx3 : ∀ h : 0 < a0.size, ((a0[0]'h).toNat : Int) = bt a0 0 := bt_at a0 0
    clear p3
    have qi3 : (0 < (a0.size : Int)) = True := eq_true (of_decide_eq_true (by first | (with_reducible assumption) | assumption))
    replace q3 := eq_true q3
    go_enter Tryz.func25, Tryz.ntmps25
    go_upto_block 0 with (fail)
    go_cut [3, 4, 5] (fun v3 v4 v5 wc => ∃ (kq : Nat) (x3_3 : Int) (x4_3 : Int) (x5_3 : Int), v3 = .int .i64 x3_3 ∧ v4 = .int .i64 x4_3 ∧ v5 = .int .i64 x5_3 ∧ Aside0 (spec_size.j2 kq a0 x3_3 x4_3 x5_3 = some r) ∧ Aside0 (kq ≤ k) ∧ Drawn0 w wc)
    case first =>
      have H := HC4.out
      clear HC4
      by_cases c5 : (wrap64 (bt a0 0)) < 128
      · rw [if_pos c5] at H
        have c5b0 : decide ((wrap64 (bt a0 0)) < 128) = true := decide_eq_true c5
        clear c5
        (first | rw [c5b0] | (simp only [i64_w, i32_w]; rw [c5b0]) | skip)
        obtain rfl := Option.some.inj H
        go_wp2
        go_ret
        exact ⟨by first | rfl | (simp; done) | (simp [*]; done), by repeat (first | exact Drawn0.refl _ | apply Drawn0.step)⟩
      · rw [if_neg c5] at H
        have c5b0 : decide ((wrap64 (bt a0 0)) < 128) = false := decide_eq_false c5
        clear c5
        (first | rw [c5b0] | (simp only [i64_w, i32_w]; rw [c5b0]) | skip)
        have HC6 := Aside0.mk H
        clear H
        go_upto_region 6 with (fail)
        go_cut [13] (fun v13 wc => ∃ (kq : Nat) (x13_5 : Bool), v13 = .bool x13_5 ∧ Aside0 (spec_size.j0 kq a0 (wrap64 (bt a0 0)) x13_5 = some r) ∧ Aside0 (kq ≤ k) ∧ Drawn0 w wc)
        case first =>
          have H := HC6.out
          clear HC6
          by_cases c7 : (wrap64 (bt a0 0)) ≥ 194
          · rw [if_pos c7] at H
            have c7b0 : decide (194 ≤ (wrap64 (bt a0 0))) = true := decide_eq_true c7
            clear c7
            (first | rw [c7b0] | (simp only [i64_w, i32_w]; rw [c7b0]) | skip)
            have H' := Aside0.mk H
            clear H
            go_wp2
            go_meet
            case rel => exact ⟨_, (decide ((wrap64 (bt a0 0)) < 224)), (by first | rfl | (simp; done) | (simp [*]; done)), H', ⟨by first | omega | exact Nat.le_refl _⟩, by repeat (first | exact Drawn0.refl _ | apply Drawn0.step)⟩
          · rw [if_neg c7] at H
            have c7b0 : decide (194 ≤ (wrap64 (bt a0 0))) = false := decide_eq_false c7
            clear c7
            (first | rw [c7b0] | (simp only [i64_w, i32_w]; rw [c7b0]) | skip)
            have H' := Aside0.mk H
            clear H
            go_wp2
            go_meet
            case rel => exact ⟨_, (false), (by first | rfl | (simp; done) | (simp [*]; done)), H', ⟨by first | omega | exact Nat.le_refl _⟩, by repeat (first | exact Drawn0.refl _ | apply Drawn0.step)⟩
        case rest =>
          clear HC6
          try clear c2
          try clear c2b0
          try clear c2b1
          try clear p2
          try clear p3
          try clear q3
          try clear hx3
          try clear qi3
          try clear c5
          try clear c5b0
          try clear p6
          try clear c7
          try clear c7b0
          try clear p3
          try clear q3
          obtain ⟨kq, x13_5, rfl, HA, HJ5, ⟨mc5, rfl⟩⟩ := hcut
          cases kq with
          | zero => exact absurd HA.out (by simp [spec_size.j0])
          | succ kj5 =>
            have H := HA.out
            clear HA
            simp only [spec_size.j0] at H
            by_cases c8 : x13_5 = true
            · subst c8
              have H1 : (spec_size.j2 kj5 a0 (Go.bits .and .i64 (wrap64 (bt a0 0)) 31) 2 128) = some r := by rw [if_pos rfl] at H; exact H
              clear H
              have H := H1
              clear H1
              have H' := Aside0.mk H
              clear H
              go_wp2
              go_meet
              case rel => exact ⟨_, (Go.bits .and .i64 (wrap64 (bt a0 0)) 31), (2), (128), (by first | rfl | (simp; done) | (simp [*]; done)), (by first | rfl | (simp; done) | (simp [*]; done)), (by first | rfl | (simp; done) | (simp [*]; done)), H', ⟨by have := HJ5.out; first | omega | exact Nat.le_refl _⟩, by repeat (first | exact Drawn0.refl _ | apply Drawn0.step)⟩
            · replace c8 := Bool.eq_false_iff.mpr c8
              subst c8
              have H1 : (if (wrap64 (bt a0 0)) ≥ 224 then (spec_size.j1 kj5 a0 (wrap64 (bt a0 0)) (decide ((wrap64 (bt a0 0)) < 240))) else (spec_size.j1 kj5 a0 (wrap64 (bt a0 0)) false)) = some r := by rw [if_neg (show ¬ (false = true) by decide)] at H; exact H
              clear H
              have H := H1
              clear H1
              have HC9 := Aside0.mk H
              clear H
              go_upto_region 8 with (fail)
              go_cut [22] (fun v22 wc => ∃ (kq : Nat) (x22_8 : Bool), v22 = .bool x22_8 ∧ Aside0 (spec_size.j1 kq a0 (wrap64 (bt a0 0)) x22_8 = some r) ∧ Aside0 (kq ≤ kj5) ∧ Drawn0 w wc)
              case first =>
                have H := HC9.out
                clear HC9
                by_cases c10 : (wrap64 (bt a0 0)) ≥ 224
                · rw [if_pos c10] at H
                  have c10b0 : decide (224 ≤ (wrap64 (bt a0 0))) = true := decide_eq_true c10
                  clear c10
                  (first | rw [c10b0] | (simp only [i64_w, i32_w]; rw [c10b0]) | skip)
                  have H' := Aside0.mk H
                  clear H
                  go_wp2
                  go_meet
                  case rel => exact ⟨_, (decide ((wrap64 (bt a0 0)) < 240)), (by first | rfl | (simp; done) | (simp [*]; done)), H', ⟨by have := HJ5.out; first | omega | exact Nat.le_refl _⟩, by repeat (first | exact Drawn0.refl _ | apply Drawn0.step)⟩
                · rw [if_neg c10] at H
                  have c10b0 : decide (224 ≤ (wrap64 (bt a0 0))) = false := decide_eq_false c10
                  clear c10
                  (first | rw [c10b0] | (simp only [i64_w, i32_w]; rw [c10b0]) | skip)
                  have H' := Aside0.mk H
                  clear H
                  go_wp2
                  go_meet
                  case rel => exact ⟨_, (false), (by first | rfl | (simp; done) | (simp [*]; done)), H', ⟨by have := HJ5.out; first | omega | exact Nat.le_refl _⟩, by repeat (first | exact Drawn0.refl _ | apply Drawn0.step)⟩
              case rest =>
                clear HC9
                try clear c1
                try clear c2
                try clear c2b0
                try clear c2b1
                try clear p2
                try clear p3
                try clear q3
                try clear hx3
                try clear qi3
                try clear c5
                try clear c5b0
                try clear p6
                try clear c7
                try clear c7b0
                try clear c8
                try clear c10
                try clear c10b0
                try clear p2
                try clear p3
                try clear p6
                try clear q3
                obtain ⟨kq, x22_8, rfl, HA, HJ8, ⟨mc8, rfl⟩⟩ := hcut
                cases kq with
                | zero => exact absurd HA.out (by simp [spec_size.j1])
                | succ kj8 =>
                  have H := HA.out
                  clear HA
                  simp only [spec_size.j1] at H
                  by_cases c11 : x22_8 = true
                  · subst c11
                    have H1 : (spec_size.j2 kj8 a0 (Go.bits .and .i64 (wrap64 (bt a0 0)) 15) 3 2048) = some r := by rw [if_pos rfl] at H; exact H
                    clear H
                    have H := H1
                    clear H1
                    have H' := Aside0.mk H
                    clear H
                    go_wp2
                    go_meet
                    case rel => exact ⟨_, (Go.bits .and .i64 (wrap64 (bt a0 0)) 15), (3), (2048), (by first | rfl | (simp; done) | (simp [*]; done)), (by first | rfl | (simp; done) | (simp [*]; done)), (by first | rfl | (simp; done) | (simp [*]; done)), H', ⟨by have := HJ5.out; have := HJ8.out; first | omega | exact Nat.le_refl _⟩, by repeat (first | exact Drawn0.refl _ | apply Drawn0.step)⟩
                  · replace c11 := Bool.eq_false_iff.mpr c11
                    subst c11
                    have H1 : (if (wrap64 (bt a0 0)) ≥ 240 then (if (wrap64 (bt a0 0)) < 245 then (spec_size.j2 kj8 a0 (Go.bits .and .i64 (wrap64 (bt a0 0)) 7) 4 65536) else (some 0)) else (some 0)) = some r := by rw [if_neg (show ¬ (false = true) by decide)] at H; exact H
                    clear H
                    have H := H1
                    clear H1
                    by_cases c12 : (wrap64 (bt a0 0)) ≥ 240
                    · rw [if_pos c12] at H
                      have c12b0 : decide (240 ≤ (wrap64 (bt a0 0))) = true := decide_eq_true c12
                      clear c12
                      by_cases c13 : (wrap64 (bt a0 0)) < 245
                      · rw [if_pos c13] at H
                        have c13b0 : decide ((wrap64 (bt a0 0)) < 245) = true := decide_eq_true c13
                        clear c13
                        have H' := Aside0.mk H
                        clear H
                        go_wp2
                        go_meet
                        case rel => exact ⟨_, (Go.bits .and .i64 (wrap64 (bt a0 0)) 7), (4), (65536), (by first | rfl | (simp; done) | (simp [*]; done)), (by first | rfl | (simp; done) | (simp [*]; done)), (by first | rfl | (simp; done) | (simp [*]; done)), H', ⟨by have := HJ5.out; have := HJ8.out; first | omega | exact Nat.le_refl _⟩, by repeat (first | exact Drawn0.refl _ | apply Drawn0.step)⟩
                      · rw [if_neg c13] at H
                        have c13b0 : decide ((wrap64 (bt a0 0)) < 245) = false := decide_eq_false c13
                        clear c13
                        obtain rfl := Option.some.inj H
                        go_wp2
                        go_ret
                        exact ⟨by first | rfl | (simp; done) | (simp [*]; done), by repeat (first | exact Drawn0.refl _ | apply Drawn0.step)⟩
                    · rw [if_neg c12] at H
                      have c12b0 : decide (240 ≤ (wrap64 (bt a0 0))) = false := decide_eq_false c12
                      clear c12
                      obtain rfl := Option.some.inj H
                      go_wp2
                      go_ret
                      exact ⟨by first | rfl | (simp; done) | (simp [*]; done), by repeat (first | exact Drawn0.refl _ | apply Drawn0.step)⟩
    case rest =>
      clear HC4
      try clear c1
      try clear c2
      try clear c2b0
      try clear c2b1
      try clear p2
      try clear p3
      try clear q3
      try clear hx3
      try clear qi3
      try clear c5
      try clear c5b0
      try clear p6
      try clear c7
      try clear c7b0
      try clear c8
      try clear c10
      try clear c10b0
      try clear c11
      try clear c12
      try clear c12b0
      try clear c13
      try clear c13b0
      try clear p2
      try clear p3
      try clear p6
      try clear q3
      obtain ⟨kq, x3_3, x4_3, x5_3, rfl, rfl, rfl, HA, HJ3, ⟨mc3, rfl⟩⟩ := hcut
      cases kq with
      | zero => exact absurd HA.out (by simp [spec_size.j2])
      | succ kj3 =>
        have H := HA.out
        clear HA
        simp only [spec_size.j2] at H
        by_cases c14 : (a0.size : Int) < x4_3
        · rw [if_pos c14] at H
          have c14b0 : decide ((a0.size : Int) < x4_3) = true := decide_eq_true c14
          clear c14
          obtain rfl := Option.some.inj H
          go_wp2
          go_ret
          exact ⟨by first | rfl | (simp; done) | (simp [*]; done), by repeat (first | exact Drawn0.refl _ | apply Drawn0.step)⟩
        · rw [if_neg c14] at H
          have c14b0 : decide ((a0.size : Int) < x4_3) = false := decide_eq_false c14
          clear c14
          have H' := Aside0.mk H
          clear H
          go_wp2
          go_loopg [3, 6] kj3 (fun kq v3 v6 w' => ∃ (x3_2 : Int) (x6_2 : Int), v3 = .int .i64 x3_2 ∧ v6 = .int .i64 x6_2 ∧ Aside0 (spec_size.l0 kq a0 x3_2 x4_3 x5_3 x6_2 = some r) ∧ Aside0 (kq ≤ kj3) ∧ Drawn0 w w')
          case atStart => exact ⟨(x3_3), (1), (by first | rfl | (simp; done) | (simp [*]; done)), (by first | rfl | (simp; done) | (simp [*]; done)), H', ⟨Nat.le_refl _⟩, by repeat (first | exact Drawn0.refl _ | apply Drawn0.step)⟩
          case round =>
            clear H'
            try clear c1
            try clear c2
            try clear c2b0
            try clear c2b1
            try clear p2
            try clear c3
            try clear p3
            try clear q3
            try clear hx3
            try clear qi3
            try clear c5
            try clear c5b0
            try clear p6
            try clear c7
            try clear c7b0
            try clear c8
            try clear c10
            try clear c10b0
            try clear c11
            try clear c12
            try clear c12b0
            try clear c13
            try clear c13b0
            try clear c14
            try clear c14b0
            try clear p2
            try clear p3
            try clear p6
            try clear q3
            obtain ⟨x3_2, x6_2, rfl, rfl, HA, HK2, ⟨m2, rfl⟩⟩ := hrel
            cases gk with
            | zero => exact absurd HA.out (by simp [spec_size.l0])
            | succ k2 =>
              have H := HA.out
              clear HA
              simp only [spec_size.l0] at H
              by_cases c15 : x6_2 < x4_3
              · rw [if_pos c15] at H
                have c15b0 : decide (x6_2 < x4_3) = true := decide_eq_true c15
                clear c15
                by_cases c16 : 0 ≤ x6_2
                · rw [if_pos c16] at H
                  have c16b0 : decide (0 ≤ x6_2) = true := decide_eq_true c16
                  clear c16
                  by_cases c17 : x6_2 < (a0.size : Int)
                  · rw [if_pos c17] at H
                    have c17b0 : decide (x6_2 < (a0.size : Int)) = true := decide_eq_true c17
                    clear c17
                    by_cases c19 : (Go.bits .and .u8 (bt a0 x6_2) 192) = 128
                    · rw [if_pos c19] at H
                      have c19b0 : ((Go.bits .and .u8 (bt a0 x6_2) 192) == 128) = true := beq_iff_eq.mpr c19
                      have c19b1 : ((Go.bits .and .u8 (bt a0 x6_2) 192) != 128) = false := bne_eq_false_iff_eq.mpr c19
                      clear c19
                      have H' := Aside0.mk H
                      clear H
                      have p18 : 0 ≤ (x6_2 : Int) := of_decide_eq_true (by first | (with_reducible assumption) | assumption)
                      have q18 : x6_2 < (a0.size : Int) := of_decide_eq_true (by first | (with_reducible assumption) | assumption)
                      have hx18 := bt_at a0 x6_2
                      replace p18 := eq_true p18
                      replace q18 := eq_true q18
                      have p20 : 0 ≤ (x6_2 : Int) := of_decide_eq_true (by first | (with_reducible assumption) | assumption)
                      have q20 : x6_2 < (a0.size : Int) := of_decide_eq_true (by first | (with_reducible assumption) | assumption)
                      have hx20 := bt_at a0 x6_2
                      replace p20 := eq_true p20
                      replace q20 := eq_true q20
                      go_wp2
                      go_roundg k2
                      case measure => have := HJ3.out; have := HK2.out; omega
                      case rel => exact ⟨(Go.bits .or .i64 (wrap64 (x3_2 * 64)) (wrap64 (Go.bits .and .u8 (bt a0 x6_2) 63))), (wrap64 (x6_2 + 1)), (by first | rfl | (simp; done) | (simp [*]; done)), (by first | rfl | (simp; done) | (simp [*]; done)), H', ⟨by have := HJ3.out; have := HK2.out; omega⟩, by repeat (first | exact Drawn0.refl _ | apply Drawn0.step)⟩
                    · rw [if_neg c19] at H
                      have c19b0 : ((Go.bits .and .u8 (bt a0 x6_2) 192) == 128) = false := beq_eq_false_iff_ne.mpr c19
                      have c19b1 : ((Go.bits .and .u8 (bt a0 x6_2) 192) != 128) = true := bne_iff_ne.mpr c19
                      obtain rfl := Option.some.inj H
                      have p18 : 0 ≤ (x6_2 : Int) := of_decide_eq_true (by first | (with_reducible assumption) | assumption)
                      have q18 : x6_2 < (a0.size : Int) := of_decide_eq_true (by first | (with_reducible assumption) | assumption)
                      have hx18 := bt_at a0 x6_2
                      replace p18 := eq_true p18
                      replace q18 := eq_true q18
                      go_wp2
                      go_ret
                      exact ⟨by first | rfl | (simp; done) | (simp [*]; done), by repeat (first | exact Drawn0.refl _ | apply Drawn0.step)⟩
                  · rw [if_neg c17] at H
                    exact absurd H (by simp)
                · rw [if_neg c16] at H
                  exact absurd H (by simp)
              · rw [if_neg c15] at H
                have c15b0 : decide (x6_2 < x4_3) = false := decide_eq_false c15
                clear c15
                by_cases c21 : x3_2 < x5_3
                · rw [if_pos c21] at H
                  have c21b0 : decide (x3_2 < x5_3) = true := decide_eq_true c21
                  clear c21
                  obtain rfl := Option.some.inj H
                  go_wp2
                  go_ret
                  exact ⟨by first | rfl | (simp; done) | (simp [*]; done), by repeat (first | exact Drawn0.refl _ | apply Drawn0.step)⟩
                · rw [if_neg c21] at H
                  have c21b0 : decide (x3_2 < x5_3) = false := decide_eq_false c21
                  clear c21
                  by_cases c22 : x3_2 > 1114111
                  · rw [if_pos c22] at H
                    have c22b0 : decide (1114111 < x3_2) = true := decide_eq_true c22
                    clear c22
                    obtain rfl := Option.some.inj H
                    go_wp2
                    go_ret
                    exact ⟨by first | rfl | (simp; done) | (simp [*]; done), by repeat (first | exact Drawn0.refl _ | apply Drawn0.step)⟩
                  · rw [if_neg c22] at H
                    have c22b0 : decide (1114111 < x3_2) = false := decide_eq_false c22
                    clear c22
                    by_cases c23 : x3_2 ≥ 55296
                    · rw [if_pos c23] at H
                      have c23b0 : decide (55296 ≤ x3_2) = true := decide_eq_true c23
                      clear c23
                      by_cases c24 : x3_2 ≤ 57343
                      · rw [if_pos c24] at H
                        have c24b0 : decide (x3_2 ≤ 57343) = true := decide_eq_true c24
                        clear c24
                        obtain rfl := Option.some.inj H
                        go_wp2
                        go_ret
                        exact ⟨by first | rfl | (simp; done) | (simp [*]; done), by repeat (first | exact Drawn0.refl _ | apply Drawn0.step)⟩
                      · rw [if_neg c24] at H
                        have c24b0 : decide (x3_2 ≤ 57343) = false := decide_eq_false c24
                        clear c24
                        obtain rfl := Option.some.inj H
                        go_wp2
                        go_ret
                        exact ⟨by first | rfl | (simp; done) | (simp [*]; done), by repeat (first | exact Drawn0.refl _ | apply Drawn0.step)⟩
                    · rw [if_neg c23] at H
                      have c23b0 : decide (55296 ≤ x3_2) = false := decide_eq_false c23
                      clear c23
                      obtain rfl := Option.some.inj H
                      go_wp2
                      go_ret
                      exact ⟨by first | rfl | (simp; done) | (simp [*]; done), by repeat (first | exact Drawn0.refl _ | apply Drawn0.step)⟩
  · rw [if_neg c2] at H
    exact absurd H (by simp)


end Go.Proofs.YtcllhgajdcemiaaGreatDoor.PFnJSONBack

namespace Go.Proofs.YtcllhgajdcemiaaGreatDoor.PFnJSONBack
open Go.RowKit Go.Proofs.YtcllhgajdcemiaaGreatDoorW.PrintWords Go.Proofs.YtcllhgajdcemiaaGreatDoorW.PrintLast Go.Proofs.YtcllhgajdcemiaaGreatDoorW.PrintMore
attribute [local go_sem] max2_int min2_int max_two min_two max_three min_three max_four min_four
set_option linter.unusedVariables false
set_option linter.unusedSimpArgs false

/-! ### spec_hex: function 36 -/
mutual
def spec_hex.l0 : Nat → ByteArray → Int → Int → Option (Int × Bool)
  | 0, _, _, _ => none
  | k + 1, x0, x2, x10 => if x10 < 4 then (if 0 ≤ x10 then (if x10 < (x0.size : Int) then (if (bt x0 x10) ≥ 48 then (spec_hex.j1 k x0 x2 (bt x0 x10) x10 (decide ((bt x0 x10) ≤ 57))) else (spec_hex.j1 k x0 x2 (bt x0 x10) x10 false)) else (none)) else (none)) else (some (x2, true))
def spec_hex.j1 : Nat → ByteArray → Int → Int → Int → Bool → Option (Int × Bool)
  | 0, _, _, _, _, _ => none
  | k + 1, x0, x2, x6, x10, x16 => if x16 = true then (spec_hex.l0 k x0 (wrap64 ((wrap64 (16 * x2)) + ((x6 - 48) % 256))) (wrap64 (x10 + 1))) else (if x6 ≥ 97 then (spec_hex.j2 k x0 x2 x6 x10 (decide (x6 ≤ 102))) else (spec_hex.j2 k x0 x2 x6 x10 false))
def spec_hex.j2 : Nat → ByteArray → Int → Int → Int → Bool → Option (Int × Bool)
  | 0, _, _, _, _, _ => none
  | k + 1, x0, x2, x6, x10, x26 => if x26 = true then (spec_hex.l0 k x0 (wrap64 ((wrap64 (16 * x2)) + (((x6 - 97) % 256) + 10))) (wrap64 (x10 + 1))) else (if x6 ≥ 65 then (if x6 ≤ 70 then (spec_hex.l0 k x0 (wrap64 ((wrap64 (16 * x2)) + (((x6 - 65) % 256) + 10))) (wrap64 (x10 + 1))) else (some (0, false))) else (some (0, false)))
end
def spec_hex.f (k : Nat) (a0 : ByteArray) : Option (Int × Bool) := if (a0.size : Int) < 4 then (some (0, false)) else (spec_hex.l0 k a0 0 0)
theorem spec_hex.mono_l : ∀ k, (∀ y0 y1 y2, LeO (spec_hex.l0 k y0 y1 y2) (spec_hex.l0 (k + 1) y0 y1 y2)) ∧ (∀ y0 y1 y2 y3 y4, LeO (spec_hex.j1 k y0 y1 y2 y3 y4) (spec_hex.j1 (k + 1) y0 y1 y2 y3 y4)) ∧ (∀ y0 y1 y2 y3 y4, LeO (spec_hex.j2 k y0 y1 y2 y3 y4) (spec_hex.j2 (k + 1) y0 y1 y2 y3 y4))
  | 0 => ⟨fun _ _ _ r h => by simp [spec_hex.l0] at h, fun _ _ _ _ _ r h => by simp [spec_hex.j1] at h, fun _ _ _ _ _ r h => by simp [spec_hex.j2] at h⟩
  | k + 1 => by
    obtain ⟨ih0, ih1, ih2⟩ := spec_hex.mono_l k
    refine ⟨?_, ?_, ?_⟩
    · intro y0 y1 y2
      unfold spec_hex.l0
      repeat' first
      | (with_reducible exact ih0 _ _ _)
      | (with_reducible exact ih1 _ _ _ _ _)
      | (with_reducible exact ih2 _ _ _ _ _)
      | (with_reducible exact LeO.refl _)
      | (with_reducible exact LeO.none _)
      | (with_reducible refine LeO.ite ?_ ?_)
      | (with_reducible refine LeO.bind ?_ (fun _ => ?_))
      | exact ih0 _ _ _
      | exact ih1 _ _ _ _ _
      | exact ih2 _ _ _ _ _
      | exact LeO.none _
      | refine LeO.ite ?_ ?_
      | refine LeO.bind ?_ (fun _ => ?_)
    · intro y0 y1 y2 y3 y4
      unfold spec_hex.j1
      repeat' first
      | (with_reducible exact ih0 _ _ _)
      | (with_reducible exact ih1 _ _ _ _ _)
      | (with_reducible exact ih2 _ _ _ _ _)
      | (with_reducible exact LeO.refl _)
      | (with_reducible exact LeO.none _)
      | (with_reducible refine LeO.ite ?_ ?_)
      | (with_reducible refine LeO.bind ?_ (fun _ => ?_))
      | exact ih0 _ _ _
      | exact ih1 _ _ _ _ _
      | exact ih2 _ _ _ _ _
      | exact LeO.none _
      | refine LeO.ite ?_ ?_
      | refine LeO.bind ?_ (fun _ => ?_)
    · intro y0 y1 y2 y3 y4
      unfold spec_hex.j2
      repeat' first
      | (with_reducible exact ih0 _ _ _)
      | (with_reducible exact ih1 _ _ _ _ _)
      | (with_reducible exact ih2 _ _ _ _ _)
      | (with_reducible exact LeO.refl _)
      | (with_reducible exact LeO.none _)
      | (with_reducible refine LeO.ite ?_ ?_)
      | (with_reducible refine LeO.bind ?_ (fun _ => ?_))
      | exact ih0 _ _ _
      | exact ih1 _ _ _ _ _
      | exact ih2 _ _ _ _ _
      | exact LeO.none _
      | refine LeO.ite ?_ ?_
      | refine LeO.bind ?_ (fun _ => ?_)
theorem spec_hex.mono : ∀ a0 k, LeO (spec_hex.f k a0) (spec_hex.f (k + 1) a0) := by
  intro a0 k
  obtain ⟨ih0, ih1, ih2⟩ := spec_hex.mono_l k
  unfold spec_hex.f
  repeat' first
      | (with_reducible exact ih0 _ _ _)
      | (with_reducible exact ih1 _ _ _ _ _)
      | (with_reducible exact ih2 _ _ _ _ _)
      | (with_reducible exact LeO.refl _)
      | (with_reducible exact LeO.none _)
      | (with_reducible refine LeO.ite ?_ ?_)
      | (with_reducible refine LeO.bind ?_ (fun _ => ?_))
      | exact ih0 _ _ _
      | exact ih1 _ _ _ _ _
      | exact ih2 _ _ _ _ _
      | exact LeO.none _
      | refine LeO.ite ?_ ?_
      | refine LeO.bind ?_ (fun _ => ?_)
set_option maxHeartbeats 8000000 in
set_option maxRecDepth 100000 in
theorem spec_hex.calls (k : Nat) (a0 : ByteArray) (r1 : Int) (r2 : Bool) (w : World) (h : spec_hex.f k a0 = some (r1, r2)) :
    Calls Tryz.prog 36 #[.string a0] w fun e w' => e = .returned (.tuple #[.int .i64 r1, .bool r2]) ∧ Drawn0 w w' := by
  have H : (if (a0.size : Int) < 4 then (some (0, false)) else (spec_hex.l0 k a0 0 0)) = some (r1, r2) := h
  clear h
  by_cases c2 : (a0.size : Int) < 4
  · rw [if_pos c2] at H
    have c2b0 : decide ((a0.size : Int) < 4) = true := decide_eq_true c2
    have c2b1 : decide (a0.size < 4) = true := decide_eq_true (by omega)
    clear c2
    simp only [Option.some.injEq, Prod.mk.injEq] at H
    obtain ⟨rfl, rfl⟩ := H
    go_enter Tryz.func36, Tryz.ntmps36
    go_wp2
    go_ret2
    exact ⟨by first | rfl | (simp; done) | (simp [*]; done), by repeat (first | exact Drawn0.refl _ | apply Drawn0.step)⟩
  · rw [if_neg c2] at H
    have c2b0 : decide ((a0.size : Int) < 4) = false := decide_eq_false c2
    have c2b1 : decide (a0.size < 4) = false := decide_eq_false (by omega)
    clear c2
    have H' := Aside0.mk H
    clear H
    go_enter Tryz.func36, Tryz.ntmps36
    go_wp2
    go_loopg [2, 10] k (fun kq v2 v10 w' => ∃ (x2_1 : Int) (x10_1 : Int), v2 = .int .i64 x2_1 ∧ v10 = .int .i64 x10_1 ∧ Aside0 (spec_hex.l0 kq a0 x2_1 x10_1 = some (r1, r2)) ∧ Aside0 (kq ≤ k) ∧ Drawn0 w w')
    case atStart => exact ⟨(0), (0), (by first | rfl | (simp; done) | (simp [*]; done)), (by first | rfl | (simp; done) | (simp [*]; done)), H', ⟨Nat.le_refl _⟩, by repeat (first | exact Drawn0.refl _ | apply Drawn0.step)⟩
    case round =>
      clear H'
      try clear c2
      try clear c2b0
      try clear c2b1
      try clear p2
      obtain ⟨x2_1, x10_1, rfl, rfl, HA, HK1, ⟨m1, rfl⟩⟩ := hrel
      cases gk with
      | zero => exact absurd HA.out (by simp [spec_hex.l0])
      | succ k1 =>
        have H := HA.out
        clear HA
        simp only [spec_hex.l0] at H
        by_cases c3 : x10_1 < 4
        · rw [if_pos c3] at H
          have c3b0 : decide (x10_1 < 4) = true := decide_eq_true c3
          clear c3
          by_cases c4 : 0 ≤ x10_1
          · rw [if_pos c4] at H
            have c4b0 : decide (0 ≤ x10_1) = true := decide_eq_true c4
            clear c4
            by_cases c5 : x10_1 < (a0.size : Int)
            · rw [if_pos c5] at H
              have c5b0 : decide (x10_1 < (a0.size : Int)) = true := decide_eq_true c5
              clear c5
              have HC7 := Aside0.mk H
              clear H
              have p6 : 0 ≤ (x10_1 : Int) := of_decide_eq_true (by first | (with_reducible assumption) | assumption)
              have q6 : x10_1 < (a0.size : Int) := of_decide_eq_true (by first | (with_reducible assumption) | assumption)
              have hx6 := bt_at a0 x10_1
              replace p6 := eq_true p6
              replace q6 := eq_true q6
              go_upto_region 9 with (fail)
              go_cut [16] (fun v16 wc => ∃ (kq : Nat) (x16_6 : Bool), v16 = .bool x16_6 ∧ Aside0 (spec_hex.j1 kq a0 x2_1 (bt a0 x10_1) x10_1 x16_6 = some (r1, r2)) ∧ Aside0 (kq ≤ k1) ∧ Drawn0 w wc)
              case first =>
                have H := HC7.out
                clear HC7
                by_cases c8 : (bt a0 x10_1) ≥ 48
                · rw [if_pos c8] at H
                  have c8b0 : decide (48 ≤ (bt a0 x10_1)) = true := decide_eq_true c8
                  clear c8
                  (first | rw [c8b0] | (simp only [i64_w, i32_w]; rw [c8b0]) | skip)
                  have H' := Aside0.mk H
                  clear H
                  go_wp2
                  go_meet
                  case rel => exact ⟨_, (decide ((bt a0 x10_1) ≤ 57)), (by first | rfl | (simp; done) | (simp [*]; done)), H', ⟨by have := HK1.out; first | omega | exact Nat.le_refl _⟩, by repeat (first | exact Drawn0.refl _ | apply Drawn0.step)⟩
                · rw [if_neg c8] at H
                  have c8b0 : decide (48 ≤ (bt a0 x10_1)) = false := decide_eq_false c8
                  clear c8
                  (first | rw [c8b0] | (simp only [i64_w, i32_w]; rw [c8b0]) | skip)
                  have H' := Aside0.mk H
                  clear H
                  go_wp2
                  go_meet
                  case rel => exact ⟨_, (false), (by first | rfl | (simp; done) | (simp [*]; done)), H', ⟨by have := HK1.out; first | omega | exact Nat.le_refl _⟩, by repeat (first | exact Drawn0.refl _ | apply Drawn0.step)⟩
              case rest =>
                clear HC7
                try clear c2
                try clear c2b0
                try clear c2b1
                try clear p2
                try clear c3
                try clear c3b0
                try clear c4
                try clear c4b0
                try clear c5
                try clear c5b0
                try clear p6
                try clear q6
                try clear hx6
                try clear c8
                try clear c8b0
                try clear p2
                try clear p6
                try clear q6
                obtain ⟨kq, x16_6, rfl, HA, HJ6, ⟨mc6, rfl⟩⟩ := hcut
                cases kq with
                | zero => exact absurd HA.out (by simp [spec_hex.j1])
                | succ kj6 =>
                  have H := HA.out
                  clear HA
                  simp only [spec_hex.j1] at H
                  by_cases c9 : x16_6 = true
                  · subst c9
                    have H1 : (spec_hex.l0 kj6 a0 (wrap64 ((wrap64 (16 * x2_1)) + (((bt a0 x10_1) - 48) % 256))) (wrap64 (x10_1 + 1))) = some (r1, r2) := by rw [if_pos rfl] at H; exact H
                    clear H
                    have H := H1
                    clear H1
                    have H' := Aside0.mk H
                    clear H
                    go_wp2
                    go_roundg kj6
                    case measure => have := HK1.out; have := HJ6.out; omega
                    case rel => exact ⟨(wrap64 ((wrap64 (16 * x2_1)) + (((bt a0 x10_1) - 48) % 256))), (wrap64 (x10_1 + 1)), (by first | rfl | (simp; done) | (simp [*]; done)), (by first | rfl | (simp; done) | (simp [*]; done)), H', ⟨by have := HK1.out; have := HJ6.out; omega⟩, by repeat (first | exact Drawn0.refl _ | apply Drawn0.step)⟩
                  · replace c9 := Bool.eq_false_iff.mpr c9
                    subst c9
                    have H1 : (if (bt a0 x10_1) ≥ 97 then (spec_hex.j2 kj6 a0 x2_1 (bt a0 x10_1) x10_1 (decide ((bt a0 x10_1) ≤ 102))) else (spec_hex.j2 kj6 a0 x2_1 (bt a0 x10_1) x10_1 false)) = some (r1, r2) := by rw [if_neg (show ¬ (false = true) by decide)] at H; exact H
                    clear H
                    have H := H1
                    clear H1
                    have HC10 := Aside0.mk H
                    clear H
                    go_upto_region 11 with (fail)
                    go_cut [26] (fun v26 wc => ∃ (kq : Nat) (x26_9 : Bool), v26 = .bool x26_9 ∧ Aside0 (spec_hex.j2 kq a0 x2_1 (bt a0 x10_1) x10_1 x26_9 = some (r1, r2)) ∧ Aside0 (kq ≤ kj6) ∧ Drawn0 w wc)
                    case first =>
                      have H := HC10.out
                      clear HC10
                      by_cases c11 : (bt a0 x10_1) ≥ 97
                      · rw [if_pos c11] at H
                        have c11b0 : decide (97 ≤ (bt a0 x10_1)) = true := decide_eq_true c11
                        clear c11
                        (first | rw [c11b0] | (simp only [i64_w, i32_w]; rw [c11b0]) | skip)
                        have H' := Aside0.mk H
                        clear H
                        go_wp2
                        go_meet
                        case rel => exact ⟨_, (decide ((bt a0 x10_1) ≤ 102)), (by first | rfl | (simp; done) | (simp [*]; done)), H', ⟨by have := HK1.out; have := HJ6.out; first | omega | exact Nat.le_refl _⟩, by repeat (first | exact Drawn0.refl _ | apply Drawn0.step)⟩
                      · rw [if_neg c11] at H
                        have c11b0 : decide (97 ≤ (bt a0 x10_1)) = false := decide_eq_false c11
                        clear c11
                        (first | rw [c11b0] | (simp only [i64_w, i32_w]; rw [c11b0]) | skip)
                        have H' := Aside0.mk H
                        clear H
                        go_wp2
                        go_meet
                        case rel => exact ⟨_, (false), (by first | rfl | (simp; done) | (simp [*]; done)), H', ⟨by have := HK1.out; have := HJ6.out; first | omega | exact Nat.le_refl _⟩, by repeat (first | exact Drawn0.refl _ | apply Drawn0.step)⟩
                    case rest =>
                      clear HC10
                      try clear c1
                      try clear c2
                      try clear c2b0
                      try clear c2b1
                      try clear p2
                      try clear c3
                      try clear c3b0
                      try clear c4
                      try clear c4b0
                      try clear c5
                      try clear c5b0
                      try clear c6
                      try clear p6
                      try clear q6
                      try clear hx6
                      try clear c8
                      try clear c8b0
                      try clear c9
                      try clear c11
                      try clear c11b0
                      try clear p2
                      try clear p6
                      try clear q6
                      obtain ⟨kq, x26_9, rfl, HA, HJ9, ⟨mc9, rfl⟩⟩ := hcut
                      cases kq with
                      | zero => exact absurd HA.out (by simp [spec_hex.j2])
                      | succ kj9 =>
                        have H := HA.out
                        clear HA
                        simp only [spec_hex.j2] at H
                        by_cases c12 : x26_9 = true
                        · subst c12
                          have H1 : (spec_hex.l0 kj9 a0 (wrap64 ((wrap64 (16 * x2_1)) + ((((bt a0 x10_1) - 97) % 256) + 10))) (wrap64 (x10_1 + 1))) = some (r1, r2) := by rw [if_pos rfl] at H; exact H
                          clear H
                          have H := H1
                          clear H1
                          have H' := Aside0.mk H
                          clear H
                          go_wp2
                          go_roundg kj9
                          case measure => have := HK1.out; have := HJ6.out; have := HJ9.out; omega
                          case rel => exact ⟨(wrap64 ((wrap64 (16 * x2_1)) + ((((bt a0 x10_1) - 97) % 256) + 10))), (wrap64 (x10_1 + 1)), (by first | rfl | (simp; done) | (simp [*]; done)), (by first | rfl | (simp; done) | (simp [*]; done)), H', ⟨by have := HK1.out; have := HJ6.out; have := HJ9.out; omega⟩, by repeat (first | exact Drawn0.refl _ | apply Drawn0.step)⟩
                        · replace c12 := Bool.eq_false_iff.mpr c12
                          subst c12
                          have H1 : (if (bt a0 x10_1) ≥ 65 then (if (bt a0 x10_1) ≤ 70 then (spec_hex.l0 kj9 a0 (wrap64 ((wrap64 (16 * x2_1)) + ((((bt a0 x10_1) - 65) % 256) + 10))) (wrap64 (x10_1 + 1))) else (some (0, false))) else (some (0, false))) = some (r1, r2) := by rw [if_neg (show ¬ (false = true) by decide)] at H; exact H
                          clear H
                          have H := H1
                          clear H1
                          by_cases c13 : (bt a0 x10_1) ≥ 65
                          · rw [if_pos c13] at H
                            have c13b0 : decide (65 ≤ (bt a0 x10_1)) = true := decide_eq_true c13
                            clear c13
                            by_cases c14 : (bt a0 x10_1) ≤ 70
                            · rw [if_pos c14] at H
                              have c14b0 : decide ((bt a0 x10_1) ≤ 70) = true := decide_eq_true c14
                              clear c14
                              have H' := Aside0.mk H
                              clear H
                              go_wp2
                              go_roundg kj9
                              case measure => have := HK1.out; have := HJ6.out; have := HJ9.out; omega
                              case rel => exact ⟨(wrap64 ((wrap64 (16 * x2_1)) + ((((bt a0 x10_1) - 65) % 256) + 10))), (wrap64 (x10_1 + 1)), (by first | rfl | (simp; done) | (simp [*]; done)), (by first | rfl | (simp; done) | (simp [*]; done)), H', ⟨by have := HK1.out; have := HJ6.out; have := HJ9.out; omega⟩, by repeat (first | exact Drawn0.refl _ | apply Drawn0.step)⟩
                            · rw [if_neg c14] at H
                              have c14b0 : decide ((bt a0 x10_1) ≤ 70) = false := decide_eq_false c14
                              clear c14
                              simp only [Option.some.injEq, Prod.mk.injEq] at H
                              obtain ⟨rfl, rfl⟩ := H
                              go_wp2
                              go_ret2
                              exact ⟨by first | rfl | (simp; done) | (simp [*]; done), by repeat (first | exact Drawn0.refl _ | apply Drawn0.step)⟩
                          · rw [if_neg c13] at H
                            have c13b0 : decide (65 ≤ (bt a0 x10_1)) = false := decide_eq_false c13
                            clear c13
                            simp only [Option.some.injEq, Prod.mk.injEq] at H
                            obtain ⟨rfl, rfl⟩ := H
                            go_wp2
                            go_ret2
                            exact ⟨by first | rfl | (simp; done) | (simp [*]; done), by repeat (first | exact Drawn0.refl _ | apply Drawn0.step)⟩
            · rw [if_neg c5] at H
              exact absurd H (by simp)
          · rw [if_neg c4] at H
            exact absurd H (by simp)
        · rw [if_neg c3] at H
          have c3b0 : decide (x10_1 < 4) = false := decide_eq_false c3
          clear c3
          simp only [Option.some.injEq, Prod.mk.injEq] at H
          obtain ⟨rfl, rfl⟩ := H
          go_wp2
          go_ret2
          exact ⟨by first | rfl | (simp; done) | (simp [*]; done), by repeat (first | exact Drawn0.refl _ | apply Drawn0.step)⟩

-- NOT PRINTED: function 37 (spec_coded)

-- NOT PRINTED: function 30 (spec_Body)

-- NOT PRINTED: function 26 (spec_quote)

-- NOT PRINTED: function 18 (spec_object)

-- NOT PRINTED: function 7 (spec_ReadJSON)

-- NOT PRINTED: function 58 (sloglines_Buffer_byte)

-- NOT PRINTED: function 59 (slices_Clip_string_string)

-- NOT PRINTED: function 38 (sloglines_commonHandler_clone)

-- NOT PRINTED: function 31 (sloglines_commonHandler_withGroup)

-- NOT PRINTED: function 63 (sloglines_Value_Kind)

-- NOT PRINTED: function 64 (sloglines_Value_group)

-- NOT PRINTED: function 50 (sloglines_Value_isEmptyGroup)

-- NOT PRINTED: function 39 (sloglines_countEmptyGroups)

-- NOT PRINTED: function 51 (sloglines_newBuffer)

-- NOT PRINTED: function 40 (sloglines_commonHandler_newHandleState)

-- NOT PRINTED: function 60 (sloglines_Buffer_Free)

-- NOT PRINTED: function 41 (sloglines_handleState_free)

-- NOT PRINTED: function 42 (sloglines_Buffer_WriteString)

/-- A state of type 68 at block g of W; what its slices lead to came in by w0. -/
def IsS68 (w0 W : World) (g : Nat) (f0 : Bool) (f1 : List Int) (f2 : ByteArray) (f3 : List ByteArray) (f4 : Int) : Prop := ∃ A1 c1, ∃ A3 c3, W.heap[g]? = some (.cells #[.bool f0, .slice A1 f1.length c1, .string f2, .slice A3 f3.length c3, .int .i64 f4] 68 (0, 0)) ∧ w0.heap.size ≤ g ∧ Kd.C (Kd.int .u8) w0 A1 f1.length f1 ∧ Kd.C Kd.string w0 A3 f3.length f3
theorem IsS68.grown {w0 W : World} {g : Nat} {f0 : Bool} {f1 : List Int} {f2 : ByteArray} {f3 : List ByteArray} {f4 : Int} {W1 : World} {row : Option Nat} (h : IsS68 w0 W g f0 f1 f2 f3 f4) (hw : W.grownBy W1 row) (hne : some g ≠ row) : IsS68 w0 W1 g f0 f1 f2 f3 f4 := by
  obtain ⟨A1, c1, A3, c3, hb, hg, hr1, hr3⟩ := h
  exact ⟨A1, c1, A3, c3, blk_grown hb hw hne, hg, hr1, hr3⟩
theorem IsS68.own_neN {w0 W : World} {g : Nat} {f0 : Bool} {f1 : List Int} {f2 : ByteArray} {f3 : List ByteArray} {f4 : Int} {α : Type} {d : Kd α} {e : Nat} {base : Nat} {ok : Nat → Prop} {v : Value} {xs : List α} (h : IsS68 w0 W g f0 f1 f2 f3 f4) (ho : Kd.N d e W base ok v xs) (ht : e ≠ 68) : some g ≠ v.ownBlock := by
  obtain ⟨A1, c1, A3, c3, hb, hg, hr1, hr3⟩ := h
  exact Kd.N_ne ho hb ht
theorem IsS68.fresh {w0 W : World} {g : Nat} {f0 : Bool} {f1 : List Int} {f2 : ByteArray} {f3 : List ByteArray} {f4 : Int} (h : IsS68 w0 W g f0 f1 f2 f3 f4) : ∀ k, W.heap.size ≤ k → k ≠ g := by
  obtain ⟨A1, c1, A3, c3, hb, hg, hr1, hr3⟩ := h
  exact Kd.freshB hb
theorem IsS68.kept {w0 W : World} {g : Nat} {f0 : Bool} {f1 : List Int} {f2 : ByteArray} {f3 : List ByteArray} {f4 : Int} {W1 : World} {S : Nat → Prop} (h : IsS68 w0 W g f0 f1 f2 f3 f4) (hk : Kept W W1 S) (hne : ¬ S g) : IsS68 w0 W1 g f0 f1 f2 f3 f4 := by
  obtain ⟨A1, c1, A3, c3, hb, hg, hr1, hr3⟩ := h
  exact ⟨A1, c1, A3, c3, blk_kept hb hk hne, hg, hr1, hr3⟩
theorem IsS68.below {w0 W : World} {g : Nat} {f0 : Bool} {f1 : List Int} {f2 : ByteArray} {f3 : List ByteArray} {f4 : Int} {W1 : World} (h : IsS68 w0 W g f0 f1 f2 f3 f4) (hw : Below W.heap.size W W1) : IsS68 w0 W1 g f0 f1 f2 f3 f4 := h.grown (grown_of_below hw none) (by simp)
theorem IsS68.alloc {w0 W : World} {g : Nat} {f0 : Bool} {f1 : List Int} {f2 : ByteArray} {f3 : List ByteArray} {f4 : Int} (h : IsS68 w0 W g f0 f1 f2 f3 f4) (o : Obj) : IsS68 w0 (W.alloc o) g f0 f1 f2 f3 f4 := h.below (below_alloc (Below.refl _ _) o)
theorem IsS68.drewN {w0 W : World} {g : Nat} {f0 : Bool} {f1 : List Int} {f2 : ByteArray} {f3 : List ByteArray} {f4 : Int} (h : IsS68 w0 W g f0 f1 f2 f3 f4) (m : Nat) : IsS68 w0 (W.drewN m) g f0 f1 f2 f3 f4 := h
theorem IsS68.drew {w0 W : World} {g : Nat} {f0 : Bool} {f1 : List Int} {f2 : ByteArray} {f3 : List ByteArray} {f4 : Int} (h : IsS68 w0 W g f0 f1 f2 f3 f4) : IsS68 w0 W.drew g f0 f1 f2 f3 f4 := h
theorem IsS68.at_ {w0 W : World} {g : Nat} {f0 : Bool} {f1 : List Int} {f2 : ByteArray} {f3 : List ByteArray} {f4 : Int} {w' : World} {m : Nat} (hq : W.drewN m = w') (h : IsS68 w0 W g f0 f1 f2 f3 f4) : IsS68 w0 w' g f0 f1 f2 f3 f4 := by subst hq; exact IsS68.drewN h m
theorem IsS68.apart {w0 W : World} {g : Nat} {f0 : Bool} {f1 : List Int} {f2 : ByteArray} {f3 : List ByteArray} {f4 : Int} {α : Type} {d : Kd α} {e : Nat} {base : Nat} {ok : Nat → Prop} {v : Value} {xs : List α} (h : IsS68 w0 W g f0 f1 f2 f3 f4) (ho : d.R e W base ok v xs) (ht : ∀ q, q ∈ e :: d.E → q ≠ 68) : d.R e W base (fun k => ok k ∧ k ≠ g) v xs := by
  obtain ⟨A1, c1, A3, c3, hb, hg, hr1, hr3⟩ := h
  exact Kd.R_types ho hb ht
theorem IsS68.own_ne {w0 W : World} {g : Nat} {f0 : Bool} {f1 : List Int} {f2 : ByteArray} {f3 : List ByteArray} {f4 : Int} {α : Type} {d : Kd α} {e : Nat} {base : Nat} {ok : Nat → Prop} {v : Value} {xs : List α} (h : IsS68 w0 W g f0 f1 f2 f3 f4) (ho : d.R e W base ok v xs) (ht : e ≠ 68) : some g ≠ v.ownBlock := by
  obtain ⟨A1, c1, A3, c3, hb, hg, hr1, hr3⟩ := h
  exact Kd.R_ne ho hb ht
theorem IsS68.apartQ {w0 W : World} {g : Nat} {f0 : Bool} {f1 : List Int} {f2 : ByteArray} {f3 : List ByteArray} {f4 : Int} {α : Type} {d : Kd α} {e : Nat} {base : Nat} {ok : Nat → Prop} {v : Value} {xs : List α} (h : IsS68 w0 W g f0 f1 f2 f3 f4) (ho : d.Q e W base ok v xs) (ht : ∀ q, q ∈ e :: d.E → q ≠ 68) : d.Q e W base (fun k => ok k ∧ k ≠ g) v xs := by
  obtain ⟨A1, c1, A3, c3, hb, hg, hr1, hr3⟩ := h
  exact Kd.Q_types ho hb ht
theorem IsS68.own_neQ {w0 W : World} {g : Nat} {f0 : Bool} {f1 : List Int} {f2 : ByteArray} {f3 : List ByteArray} {f4 : Int} {α : Type} {d : Kd α} {e : Nat} {base : Nat} {ok : Nat → Prop} {v : Value} {xs : List α} (h : IsS68 w0 W g f0 f1 f2 f3 f4) (ho : d.Q e W base ok v xs) (ht : e ≠ 68) : some g ≠ v.ownBlock := by
  obtain ⟨A1, c1, A3, c3, hb, hg, hr1, hr3⟩ := h
  exact Kd.Q_ne ho hb ht
theorem IsS68.apartS {w0 W : World} {g : Nat} {f0 : Bool} {f1 : List Int} {f2 : ByteArray} {f3 : List ByteArray} {f4 : Int} {α : Type} {d : Kd α} {e : Nat} {base : Nat} {ok : Nat → Prop} {v : Value} {xs : List α} (h : IsS68 w0 W g f0 f1 f2 f3 f4) (ho : d.S e W base ok v xs) (ht : ∀ q, q ∈ e :: d.E → q ≠ 68) : d.S e W base (fun k => ok k ∧ k ≠ g) v xs := by
  obtain ⟨A1, c1, A3, c3, hb, hg, hr1, hr3⟩ := h
  exact Kd.S_types ho hb ht
theorem IsS68.own_neS {w0 W : World} {g : Nat} {f0 : Bool} {f1 : List Int} {f2 : ByteArray} {f3 : List ByteArray} {f4 : Int} {α : Type} {d : Kd α} {e : Nat} {base : Nat} {ok : Nat → Prop} {v : Value} {xs : List α} (h : IsS68 w0 W g f0 f1 f2 f3 f4) (ho : d.S e W base ok v xs) (ht : e ≠ 68) : some g ≠ v.ownBlock := by
  obtain ⟨A1, c1, A3, c3, hb, hg, hr1, hr3⟩ := h
  exact Kd.S_ne ho hb ht
theorem IsS68.lt {w0 W : World} {g : Nat} {f0 : Bool} {f1 : List Int} {f2 : ByteArray} {f3 : List ByteArray} {f4 : Int} (h : IsS68 w0 W g f0 f1 f2 f3 f4) : g < W.heap.size := by
  obtain ⟨A1, c1, A3, c3, hb, hg, hr1, hr3⟩ := h
  exact blk_lt hb
theorem IsS68.ge {w0 W : World} {g : Nat} {f0 : Bool} {f1 : List Int} {f2 : ByteArray} {f3 : List ByteArray} {f4 : Int} (h : IsS68 w0 W g f0 f1 f2 f3 f4) : w0.heap.size ≤ g := by
  obtain ⟨A1, c1, A3, c3, hb, hg, hr1, hr3⟩ := h
  exact hg
theorem IsS68.ne_blk {w0 W : World} {g : Nat} {f0 : Bool} {f1 : List Int} {f2 : ByteArray} {f3 : List ByteArray} {f4 : Int} {a : Nat} {cs : Array Value} {t : TypeId} {fr : Nat × Nat} (h : IsS68 w0 W g f0 f1 f2 f3 f4) (hb2 : W.heap[a]? = some (.cells cs t fr)) (ht : t ≠ 68) : g ≠ a := by
  obtain ⟨A1, c1, A3, c3, hb, hg, hr1, hr3⟩ := h
  rintro rfl
  rw [hb] at hb2
  injection hb2 with hb2
  injection hb2 with _ ht2
  exact ht ht2.symm
theorem IsS68.far {w0 W : World} {g : Nat} {f0 : Bool} {f1 : List Int} {f2 : ByteArray} {f3 : List ByteArray} {f4 : Int} {p : Addr} (h : IsS68 w0 W g f0 f1 f2 f3 f4) (hne : g ≠ p.block) (u : Value) : IsS68 w0 (W.setCell p u) g f0 f1 f2 f3 f4 := by
  obtain ⟨A1, c1, A3, c3, hb, hg, hr1, hr3⟩ := h
  exact ⟨A1, c1, A3, c3, blk_far hb hne u, hg, hr1, hr3⟩
theorem cellS68_0 {W : World} {g : Nat} {A1 : Option Addr} {c1 : Nat} {A3 : Option Addr} {c3 : Nat} {f0 : Bool} {f1 : List Int} {f2 : ByteArray} {f3 : List ByteArray} {f4 : Int} (h : W.heap[g]? = some (.cells #[.bool f0, .slice A1 f1.length c1, .string f2, .slice A3 f3.length c3, .int .i64 f4] 68 (0, 0))) : W.cell? ⟨g, 0, none⟩ = some (.bool f0) := (blk_cell h 0).trans rfl
theorem IsS68.set_0 {w0 W : World} {g : Nat} {f0 : Bool} {f1 : List Int} {f2 : ByteArray} {f3 : List ByteArray} {f4 : Int} (h : IsS68 w0 W g f0 f1 f2 f3 f4) (x : Bool) : IsS68 w0 (W.setCell ⟨g, 0, none⟩ (.bool x)) g x f1 f2 f3 f4 := by
  obtain ⟨A1, c1, A3, c3, hb, hg, hr1, hr3⟩ := h
  exact ⟨A1, c1, A3, c3, by simpa using blk_set hb 0 (.bool x), hg, hr1, hr3⟩
theorem cellS68_1 {W : World} {g : Nat} {A1 : Option Addr} {c1 : Nat} {A3 : Option Addr} {c3 : Nat} {f0 : Bool} {f1 : List Int} {f2 : ByteArray} {f3 : List ByteArray} {f4 : Int} (h : W.heap[g]? = some (.cells #[.bool f0, .slice A1 f1.length c1, .string f2, .slice A3 f3.length c3, .int .i64 f4] 68 (0, 0))) : W.cell? ⟨g, 1, none⟩ = some (.slice A1 f1.length c1) := (blk_cell h 1).trans rfl
theorem cellS68_2 {W : World} {g : Nat} {A1 : Option Addr} {c1 : Nat} {A3 : Option Addr} {c3 : Nat} {f0 : Bool} {f1 : List Int} {f2 : ByteArray} {f3 : List ByteArray} {f4 : Int} (h : W.heap[g]? = some (.cells #[.bool f0, .slice A1 f1.length c1, .string f2, .slice A3 f3.length c3, .int .i64 f4] 68 (0, 0))) : W.cell? ⟨g, 2, none⟩ = some (.string f2) := (blk_cell h 2).trans rfl
theorem IsS68.set_2 {w0 W : World} {g : Nat} {f0 : Bool} {f1 : List Int} {f2 : ByteArray} {f3 : List ByteArray} {f4 : Int} (h : IsS68 w0 W g f0 f1 f2 f3 f4) (x : ByteArray) : IsS68 w0 (W.setCell ⟨g, 2, none⟩ (.string x)) g f0 f1 x f3 f4 := by
  obtain ⟨A1, c1, A3, c3, hb, hg, hr1, hr3⟩ := h
  exact ⟨A1, c1, A3, c3, by simpa using blk_set hb 2 (.string x), hg, hr1, hr3⟩
theorem cellS68_3 {W : World} {g : Nat} {A1 : Option Addr} {c1 : Nat} {A3 : Option Addr} {c3 : Nat} {f0 : Bool} {f1 : List Int} {f2 : ByteArray} {f3 : List ByteArray} {f4 : Int} (h : W.heap[g]? = some (.cells #[.bool f0, .slice A1 f1.length c1, .string f2, .slice A3 f3.length c3, .int .i64 f4] 68 (0, 0))) : W.cell? ⟨g, 3, none⟩ = some (.slice A3 f3.length c3) := (blk_cell h 3).trans rfl
theorem cellS68_4 {W : World} {g : Nat} {A1 : Option Addr} {c1 : Nat} {A3 : Option Addr} {c3 : Nat} {f0 : Bool} {f1 : List Int} {f2 : ByteArray} {f3 : List ByteArray} {f4 : Int} (h : W.heap[g]? = some (.cells #[.bool f0, .slice A1 f1.length c1, .string f2, .slice A3 f3.length c3, .int .i64 f4] 68 (0, 0))) : W.cell? ⟨g, 4, none⟩ = some (.int .i64 f4) := (blk_cell h 4).trans rfl
theorem IsS68.set_4 {w0 W : World} {g : Nat} {f0 : Bool} {f1 : List Int} {f2 : ByteArray} {f3 : List ByteArray} {f4 : Int} (h : IsS68 w0 W g f0 f1 f2 f3 f4) (x : Int) : IsS68 w0 (W.setCell ⟨g, 4, none⟩ (.int .i64 x)) g f0 f1 f2 f3 x := by
  obtain ⟨A1, c1, A3, c3, hb, hg, hr1, hr3⟩ := h
  exact ⟨A1, c1, A3, c3, by simpa using blk_set hb 4 (.int .i64 x), hg, hr1, hr3⟩
theorem IsS68.new (w0 W : World) (A1 : Option Addr) (c1 : Nat) (A3 : Option Addr) (c3 : Nat) (f0 : Bool) (f1 : List Int) (f2 : ByteArray) (f3 : List ByteArray) (f4 : Int) (hB : Below w0.heap.size w0 W) (hr1 : Kd.C (Kd.int .u8) w0 A1 f1.length f1) (hr3 : Kd.C Kd.string w0 A3 f3.length f3) : IsS68 w0 (W.alloc (.cells #[.bool f0, .slice A1 f1.length c1, .string f2, .slice A3 f3.length c3, .int .i64 f4] 68)) W.heap.size f0 f1 f2 f3 f4 := ⟨A1, c1, A3, c3, by simpa using heap_alloc_new W _, hB.size, hr1, hr3⟩


end Go.Proofs.YtcllhgajdcemiaaGreatDoor.PFnJSONBack

namespace Go.Proofs.YtcllhgajdcemiaaGreatDoor.PFnJSONBack
open Go.RowKit Go.Proofs.YtcllhgajdcemiaaGreatDoorW.PrintWords Go.Proofs.YtcllhgajdcemiaaGreatDoorW.PrintLast Go.Proofs.YtcllhgajdcemiaaGreatDoorW.PrintMore
attribute [local go_sem] max2_int min2_int max_two min_two max_three min_three max_four min_four
set_option linter.unusedVariables false
set_option linter.unusedSimpArgs false

/-! ### spec_Coerced: function 13 -/
def spec_Coerced.l0 : Nat → ByteArray → ByteArray → Option (ByteArray)
  | 0, _, _ => none
  | k + 1, x0, x3 => if (x0.size : Int) > 0 then ((spec_size.f k x0).bind fun t256 => (if t256 = 0 then (if x3.size + 3 ≤ 9223372036854775807 then (if 1 ≤ (x0.size : Int) then (spec_Coerced.l0 k (x0.extract 1 x0.size) (x3 ++ (⟨#[239, 191, 189]⟩ : ByteArray))) else (none)) else (none)) else (if 0 ≤ t256 then (if t256 ≤ (x0.size : Int) then (if x3.size + (x0.extract 0 (t256 : Int).toNat).size ≤ 9223372036854775807 then (spec_Coerced.l0 k (x0.extract (t256 : Int).toNat x0.size) (x3 ++ (x0.extract 0 (t256 : Int).toNat))) else (none)) else (none)) else (none)))) else (some x3)
def spec_Coerced.f (k : Nat) (a0 : ByteArray) : Option (ByteArray) := spec_Coerced.l0 k a0 (⟨#[]⟩ : ByteArray)
theorem spec_Coerced.mono_l : ∀ k, (∀ y0 y1, LeO (spec_Coerced.l0 k y0 y1) (spec_Coerced.l0 (k + 1) y0 y1))
  | 0 => fun _ _ r h => by simp [spec_Coerced.l0] at h
  | k + 1 => by
    have ih0 := spec_Coerced.mono_l k
    · intro y0 y1
      unfold spec_Coerced.l0
      repeat' first
      | (with_reducible exact ih0 _ _)
      | (with_reducible exact spec_size.mono _ _)
      | (with_reducible exact LeO.refl _)
      | (with_reducible exact LeO.none _)
      | (with_reducible refine LeO.ite ?_ ?_)
      | (with_reducible refine LeO.bind ?_ (fun _ => ?_))
      | exact ih0 _ _
      | exact spec_size.mono _ _
      | exact LeO.none _
      | refine LeO.ite ?_ ?_
      | refine LeO.bind ?_ (fun _ => ?_)
theorem spec_Coerced.mono : ∀ a0 k, LeO (spec_Coerced.f k a0) (spec_Coerced.f (k + 1) a0) := by
  intro a0 k
  have ih0 := spec_Coerced.mono_l k
  unfold spec_Coerced.f
  repeat' first
      | (with_reducible exact ih0 _ _)
      | (with_reducible exact spec_size.mono _ _)
      | (with_reducible exact LeO.refl _)
      | (with_reducible exact LeO.none _)
      | (with_reducible refine LeO.ite ?_ ?_)
      | (with_reducible refine LeO.bind ?_ (fun _ => ?_))
      | exact ih0 _ _
      | exact spec_size.mono _ _
      | exact LeO.none _
      | refine LeO.ite ?_ ?_
      | refine LeO.bind ?_ (fun _ => ?_)
set_option maxHeartbeats 8000000 in
set_option maxRecDepth 100000 in
theorem spec_Coerced.calls (k : Nat) (a0 : ByteArray) (r : ByteArray) (w : World) (h : spec_Coerced.f k a0 = some r) :
    Calls Tryz.prog 13 #[.string a0] w fun e w' => e = .returned (.string r) ∧ Drawn0 w w' := by
  have H : (spec_Coerced.l0 k a0 (⟨#[]⟩ : ByteArray)) = some r := h
  clear h
  have H' := Aside0.mk H
  clear H
  go_enter Tryz.func13, Tryz.ntmps13
  go_wp2
  go_loopg [0, 3] k (fun kq v0 v3 w' => ∃ (x0_1 : ByteArray) (x3_1 : ByteArray), v0 = .string x0_1 ∧ v3 = .string x3_1 ∧ Aside0 (spec_Coerced.l0 kq x0_1 x3_1 = some r) ∧ Aside0 (kq ≤ k) ∧ Drawn0 w w')
  case atStart => exact ⟨(a0), ((⟨#[]⟩ : ByteArray)), (by first | rfl | (simp; done) | (simp [*]; done)), (by first | rfl | (simp; done) | (simp [*]; done)), H', ⟨Nat.le_refl _⟩, by repeat (first | exact Drawn0.refl _ | apply Drawn0.step)⟩
  case round =>
    clear H'
    try clear c1
    obtain ⟨x0_1, x3_1, rfl, rfl, HA, HK1, ⟨m1, rfl⟩⟩ := hrel
    cases gk with
    | zero => exact absurd HA.out (by simp [spec_Coerced.l0])
    | succ k1 =>
      have H := HA.out
      clear HA
      simp only [spec_Coerced.l0] at H
      by_cases c2 : (x0_1.size : Int) > 0
      · rw [if_pos c2] at H
        have c2b0 : decide (0 < (x0_1.size : Int)) = true := decide_eq_true c2
        have c2b1 : decide (0 < x0_1.size) = true := decide_eq_true (by omega)
        clear c2
        replace H := Option.bind_eq_some_iff.mp H
        obtain ⟨t256, A30, H⟩ := H
        replace H : (if t256 = 0 then (if x3_1.size + 3 ≤ 9223372036854775807 then (if 1 ≤ (x0_1.size : Int) then (spec_Coerced.l0 k1 (x0_1.extract 1 x0_1.size) (x3_1 ++ (⟨#[239, 191, 189]⟩ : ByteArray))) else (none)) else (none)) else (if 0 ≤ t256 then (if t256 ≤ (x0_1.size : Int) then (if x3_1.size + (x0_1.extract 0 (t256 : Int).toNat).size ≤ 9223372036854775807 then (spec_Coerced.l0 k1 (x0_1.extract (t256 : Int).toNat x0_1.size) (x3_1 ++ (x0_1.extract 0 (t256 : Int).toNat))) else (none)) else (none)) else (none))) = some r := H
        have A3 := Aside0.mk A30
        clear A30
        by_cases c4 : t256 = 0
        · rw [if_pos c4] at H
          have c4b0 : (t256 == 0) = true := beq_iff_eq.mpr c4
          have c4b1 : (t256 != 0) = false := bne_eq_false_iff_eq.mpr c4
          clear c4
          by_cases c5 : x3_1.size + 3 ≤ 9223372036854775807
          · rw [if_pos c5] at H
            have c5b0 := eq_true c5
            have c5b1 : decide (x3_1.size + 3 ≤ 9223372036854775807) = true := decide_eq_true c5
            try have c5b2 : (9223372036854775807 < x3_1.size + 3) = False := eq_false (Nat.not_lt.2 c5)
            by_cases c6 : 1 ≤ (x0_1.size : Int)
            · rw [if_pos c6] at H
              have c6b0 := eq_true c6
              have c6b1 : decide (1 ≤ (x0_1.size : Int)) = true := decide_eq_true c6
              clear c6
              have H' := Aside0.mk H
              clear H
              go_wp2_with (first | ((with_reducible refine gate_callee (f := 25) rfl ?_); refine goesL_ (some 9) rfl rfl Tryz.func25 (by kernel_rfl) rfl #[.string x0_1] rfl (by (try simp only [List.map_toArray, List.map_cons, List.map_nil]); first | done | rfl | (simp only [List.length_drop, List.length_take]; rfl)) ?_; (with_reducible refine (spec_size.calls k1 x0_1 t256 _ A3.out).mono ?_); rintro e w' ⟨rfl, ⟨nd, rfl⟩⟩; refine ⟨_, rfl, ?_⟩))
              go_roundg k1
              case measure => have := HK1.out; omega
              case rel => exact ⟨(x0_1.extract 1 x0_1.size), (x3_1 ++ (⟨#[239, 191, 189]⟩ : ByteArray)), (by first | rfl | (simp; done) | (simp [*]; done)), (by first | rfl | (simp; done) | (simp [*]; done)), H', ⟨by have := HK1.out; omega⟩, by repeat (first | exact Drawn0.refl _ | apply Drawn0.step)⟩
            · rw [if_neg c6] at H
              exact absurd H (by simp)
          · rw [if_neg c5] at H
            exact absurd H (by simp)
        · rw [if_neg c4] at H
          have c4b0 : (t256 == 0) = false := beq_eq_false_iff_ne.mpr c4
          have c4b1 : (t256 != 0) = true := bne_iff_ne.mpr c4
          by_cases c7 : 0 ≤ t256
          · rw [if_pos c7] at H
            have c7b0 := eq_true c7
            have c7b1 : decide (0 ≤ t256) = true := decide_eq_true c7
            clear c7
            by_cases c8 : t256 ≤ (x0_1.size : Int)
            · rw [if_pos c8] at H
              have c8b0 := eq_true c8
              have c8b1 : decide (t256 ≤ (x0_1.size : Int)) = true := decide_eq_true c8
              clear c8
              by_cases c9 : x3_1.size + (x0_1.extract 0 (t256 : Int).toNat).size ≤ 9223372036854775807
              · rw [if_pos c9] at H
                have c9b0 := eq_true c9
                have c9b1 : decide (x3_1.size + (x0_1.extract 0 (t256 : Int).toNat).size ≤ 9223372036854775807) = true := decide_eq_true c9
                try have c9b2 : (9223372036854775807 < x3_1.size + (x0_1.extract 0 (t256 : Int).toNat).size) = False := eq_false (Nat.not_lt.2 c9)
                have c10b0 := eq_true (of_decide_eq_true (by first | (with_reducible assumption) | assumption) : 0 ≤ t256)
                have c11b0 := eq_true (of_decide_eq_true (by first | (with_reducible assumption) | assumption) : t256 ≤ (x0_1.size : Int))
                have H' := Aside0.mk H
                clear H
                go_wp2_with (first | ((with_reducible refine gate_callee (f := 25) rfl ?_); refine goesL_ (some 9) rfl rfl Tryz.func25 (by kernel_rfl) rfl #[.string x0_1] rfl (by (try simp only [List.map_toArray, List.map_cons, List.map_nil]); first | done | rfl | (simp only [List.length_drop, List.length_take]; rfl)) ?_; (with_reducible refine (spec_size.calls k1 x0_1 t256 _ A3.out).mono ?_); rintro e w' ⟨rfl, ⟨nd, rfl⟩⟩; refine ⟨_, rfl, ?_⟩))
                go_roundg k1
                case measure => have := HK1.out; omega
                case rel => exact ⟨(x0_1.extract (t256 : Int).toNat x0_1.size), (x3_1 ++ (x0_1.extract 0 (t256 : Int).toNat)), (by first | rfl | (simp; done) | (simp [*]; done)), (by first | rfl | (simp; done) | (simp [*]; done)), H', ⟨by have := HK1.out; omega⟩, by repeat (first | exact Drawn0.refl _ | apply Drawn0.step)⟩
              · rw [if_neg c9] at H
                exact absurd H (by simp)
            · rw [if_neg c8] at H
              exact absurd H (by simp)
          · rw [if_neg c7] at H
            exact absurd H (by simp)
      · rw [if_neg c2] at H
        have c2b0 : decide (0 < (x0_1.size : Int)) = false := decide_eq_false c2
        have c2b1 : decide (0 < x0_1.size) = false := decide_eq_false (by omega)
        clear c2
        obtain rfl := Option.some.inj H
        go_wp2
        go_ret
        exact ⟨by first | rfl | (simp; done) | (simp [*]; done), by repeat (first | exact Drawn0.refl _ | apply Drawn0.step)⟩


end Go.Proofs.YtcllhgajdcemiaaGreatDoor.PFnJSONBack

namespace Go.Proofs.YtcllhgajdcemiaaGreatDoor.PFnJSONBack
open Go.RowKit Go.Proofs.YtcllhgajdcemiaaGreatDoorW.PrintWords Go.Proofs.YtcllhgajdcemiaaGreatDoorW.PrintLast Go.Proofs.YtcllhgajdcemiaaGreatDoorW.PrintMore
attribute [local go_sem] max2_int min2_int max_two min_two max_three min_three max_four min_four
set_option linter.unusedVariables false
set_option linter.unusedSimpArgs false

/-! ### spec_utf8: function 22 -/
mutual
def spec_utf8.l0 : Nat → List (S34) → List (S34) → Int → Int → Option ((List (S34)))
  | 0, _, _, _, _ => none
  | k + 1, x3, x6, x7, x8 => if x8 < x7 then (if 0 ≤ x8 then (if x8 < (x6.length : Int) then ((spec_Coerced.f k ((rd_T34 x6 x8).f0)).bind fun t271 => ((spec_Coerced.f k ((rd_T34 x6 x8).f1)).bind fun t272 => ((spec_utf8.f k ((rd_T34 x6 x8).f3)).bind fun t273 => (if x3.length < 2199023255552 then (spec_utf8.l0 k (x3 ++ [(⟨t271, t272, (rd_T34 x6 x8).f2, t273⟩ : S34)]) x6 x7 (wrap64 (x8 + 1))) else (none))))) else (none)) else (none)) else (some x3)
def spec_utf8.f : Nat → List (S34) → Option ((List (S34)))
  | 0, _ => none
  | k + 1, l0 => spec_utf8.l0 k ([] : List (S34)) l0 (l0.length : Int) 0
end
theorem spec_utf8.mono_l : ∀ k, (∀ y0, LeO (spec_utf8.f k y0) (spec_utf8.f (k + 1) y0)) ∧ (∀ y0 y1 y2 y3, LeO (spec_utf8.l0 k y0 y1 y2 y3) (spec_utf8.l0 (k + 1) y0 y1 y2 y3))
  | 0 => ⟨fun _ r h => by simp [spec_utf8.f] at h, fun _ _ _ _ r h => by simp [spec_utf8.l0] at h⟩
  | k + 1 => by
    obtain ⟨ih0, ih1⟩ := spec_utf8.mono_l k
    refine ⟨?_, ?_⟩
    · intro y0
      unfold spec_utf8.f
      repeat' first
      | (with_reducible exact ih0 _)
      | (with_reducible exact ih1 _ _ _ _)
      | (with_reducible exact spec_Coerced.mono _ _)
      | (with_reducible exact LeO.refl _)
      | (with_reducible exact LeO.none _)
      | (with_reducible refine LeO.ite ?_ ?_)
      | (with_reducible refine LeO.bind ?_ (fun _ => ?_))
      | exact ih0 _
      | exact ih1 _ _ _ _
      | exact spec_Coerced.mono _ _
      | exact LeO.none _
      | refine LeO.ite ?_ ?_
      | refine LeO.bind ?_ (fun _ => ?_)
    · intro y0 y1 y2 y3
      unfold spec_utf8.l0
      repeat' first
      | (with_reducible exact ih0 _)
      | (with_reducible exact ih1 _ _ _ _)
      | (with_reducible exact spec_Coerced.mono _ _)
      | (with_reducible exact LeO.refl _)
      | (with_reducible exact LeO.none _)
      | (with_reducible refine LeO.ite ?_ ?_)
      | (with_reducible refine LeO.bind ?_ (fun _ => ?_))
      | exact ih0 _
      | exact ih1 _ _ _ _
      | exact spec_Coerced.mono _ _
      | exact LeO.none _
      | refine LeO.ite ?_ ?_
      | refine LeO.bind ?_ (fun _ => ?_)
theorem spec_utf8.mono : ∀ a0 k, LeO (spec_utf8.f k a0) (spec_utf8.f (k + 1) a0) := by
  intro a0 k
  obtain ⟨ih0, ih1⟩ := spec_utf8.mono_l k
  exact ih0 a0
def spec_utf8.T5 : Bool × List (List Nat × List Nat) := (true, [([], []), ([], []), ([1], [1]), ([2], [2]), ([], []), ([4], [4]), ([5, 3], [5]), ([], []), ([7], [7]), ([], []), ([9], [9]), ([10, 6], [10]), ([3, 6, 8, 11], [3, 6, 8, 11]), ([12], [12]), ([0, 13, 11], [0, 13]), ([14, 14, 0, 1, 2, 3, 4, 5, 6, 7, 8, 9, 10, 11, 12, 13, 14], [0, 14])])
def spec_utf8.B5 : List Nat := [0, 0, 2, 6, 0, 16, 62, 0, 128, 0, 512, 1662, 4094, 8190, 16383, 32767]
theorem spec_utf8.tab5 : rtab .any (opsOf Tryz.f22 5) = spec_utf8.T5 := by kernel_rfl
theorem spec_utf8.bits5 : waitsOk spec_utf8.T5.2 spec_utf8.B5 = true := by kernel_rfl
set_option maxHeartbeats 8000000 in
set_option maxRecDepth 100000 in
theorem spec_utf8.calls (k : Nat) : ∀ (A0 : Option Addr) (c0 : Nat) (l0 : List (S34)) (r : List (S34)) (w : World) (hr0 : Kd.C k34 w A0 l0.length l0) (hc0 : l0.length ≤ c0) (h : spec_utf8.f k l0 = some r),
    Calls Tryz.prog 22 #[.slice A0 l0.length c0] w fun e w' => ∃ v0_ : Value, e = .returned (v0_) ∧ Kd.R k34 34 w' w.heap.size (fun _ => True) v0_ r ∧ Below w.heap.size w w' := by
  induction k using Nat.strongRecOn with
  | _ k ih =>
  intro A0 c0 l0 r w hr0 hc0 h
  cases k with
  | zero => exact absurd h (by simp [spec_utf8.f])
  | succ k =>
  simp only [spec_utf8.f] at h
  have hu34 := Tryz.underlying34
  have HR0 := Aside0.mk hr0
  have HC0 := Aside0.mk hc0
  clear hr0 hc0
  have HB := Aside0.mk (Below.refl w.heap.size w)
  have H : (spec_utf8.l0 k ([] : List (S34)) l0 (l0.length : Int) 0) = some r := h
  clear h
  have H' := Aside0.mk H
  clear H
  go_enter Tryz.func22, Tryz.ntmps22
  go_wp2
  go_loopg [3, 8] k (fun kq v3 v8 w' => ∃ (x3_1 : List (S34)) (x8_1 : Int), v8 = .int .i64 x8_1 ∧ Aside0 (spec_utf8.l0 kq x3_1 l0 (l0.length : Int) x8_1 = some r) ∧ Aside0 (kq ≤ k) ∧ Aside0 (Kd.R k34 34 w' w.heap.size (fun _ => True) v3 x3_1) ∧ Aside0 (Below w.heap.size w w'))
  case atStart => exact ⟨(([] : List (S34))), (0), (by first | rfl | (simp; done) | (simp [*]; done)), H', ⟨Nat.le_refl _⟩, ⟨by first | exact Kd.R_nil _ _ _ _ _ | exact Kd.N_nil _ _ _ _ _ | exact Kd.V_nil _ _ _ _ _ | exact Kd.Q_nil _ _ _ _ _ | exact Kd.S_nil _ _ _ _ _⟩, ⟨by repeat (first | (with_reducible first | exact HB.out | apply below_alloc | apply pw_below_drewN | apply below_drew1) | exact HB.out)⟩⟩
  case round =>
    clear H'
    obtain ⟨x3_1, x8_1, rfl, HA, HK1, HO_3, HB⟩ := hrel
    cases gk with
    | zero => exact absurd HA.out (by simp [spec_utf8.l0])
    | succ k1 =>
      have H := HA.out
      clear HA
      simp only [spec_utf8.l0] at H
      by_cases c2 : x8_1 < (l0.length : Int)
      · rw [if_pos c2] at H
        have c2b0 : decide (x8_1 < (l0.length : Int)) = true := decide_eq_true c2
        clear c2
        by_cases c3 : 0 ≤ x8_1
        · rw [if_pos c3] at H
          have c3b0 : decide (0 ≤ x8_1) = true := decide_eq_true c3
          clear c3
          by_cases c4 : x8_1 < (l0.length : Int)
          · rw [if_pos c4] at H
            have c4b0 : decide (x8_1 < (l0.length : Int)) = true := decide_eq_true c4
            clear c4
            replace H := Option.bind_eq_some_iff.mp H
            obtain ⟨t271, A50, H⟩ := H
            replace H : ((spec_Coerced.f k1 ((rd_T34 l0 x8_1).f1)).bind fun t272 => ((spec_utf8.f k1 ((rd_T34 l0 x8_1).f3)).bind fun t273 => (if x3_1.length < 2199023255552 then (spec_utf8.l0 k1 (x3_1 ++ [(⟨t271, t272, (rd_T34 l0 x8_1).f2, t273⟩ : S34)]) l0 (l0.length : Int) (wrap64 (x8_1 + 1))) else (none)))) = some r := H
            have A5 := Aside0.mk A50
            clear A50
            replace H := Option.bind_eq_some_iff.mp H
            obtain ⟨t272, A60, H⟩ := H
            replace H : ((spec_utf8.f k1 ((rd_T34 l0 x8_1).f3)).bind fun t273 => (if x3_1.length < 2199023255552 then (spec_utf8.l0 k1 (x3_1 ++ [(⟨t271, t272, (rd_T34 l0 x8_1).f2, t273⟩ : S34)]) l0 (l0.length : Int) (wrap64 (x8_1 + 1))) else (none))) = some r := H
            have A6 := Aside0.mk A60
            clear A60
            replace H := Option.bind_eq_some_iff.mp H
            obtain ⟨t273, A70, H⟩ := H
            replace H : (if x3_1.length < 2199023255552 then (spec_utf8.l0 k1 (x3_1 ++ [(⟨t271, t272, (rd_T34 l0 x8_1).f2, t273⟩ : S34)]) l0 (l0.length : Int) (wrap64 (x8_1 + 1))) else (none)) = some r := H
            have A7 := Aside0.mk A70
            clear A70
            by_cases c8 : x3_1.length < 2199023255552
            · rw [if_pos c8] at H
              have LMc8 := Aside0.mk c8
              clear c8
              obtain ⟨y276, hy276⟩ : ∃ y_ : List (S34), y_ = (x3_1 ++ [(⟨t271, t272, (rd_T34 l0 x8_1).f2, t273⟩ : S34)]) := ⟨_, rfl⟩
              replace H : (spec_utf8.l0 k1 y276 l0 (l0.length : Int) (wrap64 (x8_1 + 1))) = some r := by first | (rw [hy276]; with_reducible exact H) | (have H2_ := (Option.bind_some _ _).symm.trans H; rw [hy276]; with_reducible exact H2_) | (have H2_ := (Option.bind_some _ _).symm.trans H; with_reducible exact H2_) | with_reducible exact H | (rw [hy276]; exact H) | exact H
              have Ny276 := Aside0.mk hy276
              clear hy276
              have H' := Aside0.mk H
              clear H
              have p269 : 0 ≤ (x8_1 : Int) := of_decide_eq_true (by first | (with_reducible assumption) | assumption)
              have q269 : x8_1 < (l0.length : Int) := of_decide_eq_true (by first | (with_reducible assumption) | assumption)
              obtain ⟨ad269, A269_3, c269_3, e269, hx269_0, hx269_1, hx269_2, hx269_3, hl269_3, hi269_3⟩ := at_T34 HR0.out x8_1 p269 q269
              cases e269
              replace hx269_0 := (HB.out.cell (World.block_lt_of_cell? w _ hx269_0)).trans hx269_0
              replace hx269_1 := (HB.out.cell (World.block_lt_of_cell? w _ hx269_1)).trans hx269_1
              replace hx269_2 := (HB.out.cell (World.block_lt_of_cell? w _ hx269_2)).trans hx269_2
              replace hx269_3 := (HB.out.cell (World.block_lt_of_cell? w _ hx269_3)).trans hx269_3
              have HR269_3 := Aside0.mk hi269_3
              have HC269_3 := Aside0.mk hl269_3
              clear hi269_3 hl269_3
              replace p269 := eq_true p269
              replace q269 := eq_true q269
              try go_wp2_with (first | ((with_reducible refine gate_dst (N := 5) rfl ?_); refine box_event ?hg (N := 5) ?hd (cs := #[.string (⟨#[]⟩ : ByteArray), .string (⟨#[]⟩ : ByteArray), .bool false, .slice none 0 0]) (t := 34) ?hr ?_; (case hd => rfl); (case hg => rfl); (case hr => first | (go_simp; done) | (go_simp; rfl)); intro gb270 hg w9 hbox hb; have n0_ := Aside0.mk (Kd.R_below (Kd.R_elderB (by (with_reducible repeat (first | apply Kd.R_alloc | apply Kd.R_drewN | apply Kd.R_drew)); exact HO_3.out) gb270 (Nat.le_of_eq hg.symm)) hb); have n1_ := Aside0.mk (below_step (by repeat (first | (with_reducible first | exact HB.out | apply below_alloc | apply pw_below_drewN | apply below_drew1) | exact HB.out)) hb); have n2_ := Aside0.mk (hbox); have n3_ := Aside0.mk ((by rw [hg]; exact (below_size (by repeat (first | (with_reducible first | exact HB.out | apply below_alloc | apply pw_below_drewN | apply below_drew1) | exact HB.out))) : w.heap.size ≤ gb270)); have n4_ := Aside0.mk ((by rw [hg]; exact (below_size (by repeat (first | (with_reducible first | exact HB.out | apply below_alloc | apply pw_below_drewN | apply below_drew1) | exact HB.out))) : w.heap.size ≤ gb270)); clear HO_3; clear HB; have HO_3 := n0_; have HB := n1_; have BK270 := n2_; have GW270 := n3_; have GE270 := n4_; clear n0_ n1_ n2_ n3_ n4_; clear hb hbox hg; have hcz10_0 : w9.cell? ⟨gb270, 0, none⟩ = some (.string (⟨#[]⟩ : ByteArray)) := (blk_cell BK270.out 0).trans rfl; have hcz10_1 : w9.cell? ⟨gb270, 1, none⟩ = some (.string (⟨#[]⟩ : ByteArray)) := (blk_cell BK270.out 1).trans rfl; have hcz10_2 : w9.cell? ⟨gb270, 2, none⟩ = some (.bool false) := (blk_cell BK270.out 2).trans rfl; have hcz10_3 : w9.cell? ⟨gb270, 3, none⟩ = some (.slice none 0 0) := (blk_cell BK270.out 3).trans rfl; have hfz10_0 := blk_frozen BK270.out 0; have hfz10_1 := blk_frozen BK270.out 1; have hfz10_2 := blk_frozen BK270.out 2; have hfz10_3 := blk_frozen BK270.out 3))
              have n0_ : Aside0 (Kd.R k34 34 ((((w9.setCell ⟨gb270, 0, none⟩ (.string ((rd_T34 l0 x8_1).f0))).setCell ⟨gb270, 1, none⟩ (.string ((rd_T34 l0 x8_1).f1))).setCell ⟨gb270, 2, none⟩ (.bool ((rd_T34 l0 x8_1).f2))).setCell ⟨gb270, 3, none⟩ (.slice A269_3 ((rd_T34 l0 x8_1).f3).length c269_3)) w.heap.size (fun k_ => k_ ≠ gb270) u3 x3_1) := ⟨by (with_reducible repeat (first | apply Kd.R_alloc | apply Kd.R_drewN | apply Kd.R_drew)); exact Kd.R_mono (Kd.R_far (p := ⟨gb270, 3, none⟩) (Kd.R_far (p := ⟨gb270, 2, none⟩) (Kd.R_far (p := ⟨gb270, 1, none⟩) (Kd.R_far (p := ⟨gb270, 0, none⟩) (Kd.R_mono HO_3.out (fun k_ hk => (⟨hk, hk.2⟩ : _ ∧ k_ ≠ gb270))) (fun _ hk => hk.2) (.string ((rd_T34 l0 x8_1).f0))) (fun _ hk => hk.2) (.string ((rd_T34 l0 x8_1).f1))) (fun _ hk => hk.2) (.bool ((rd_T34 l0 x8_1).f2))) (fun _ hk => hk.2) (.slice A269_3 ((rd_T34 l0 x8_1).f3).length c269_3)) (fun _ hk => hk.1.2)⟩
              have n1_ : Aside0 (((((w9.setCell ⟨gb270, 0, none⟩ (.string ((rd_T34 l0 x8_1).f0))).setCell ⟨gb270, 1, none⟩ (.string ((rd_T34 l0 x8_1).f1))).setCell ⟨gb270, 2, none⟩ (.bool ((rd_T34 l0 x8_1).f2))).setCell ⟨gb270, 3, none⟩ (.slice A269_3 ((rd_T34 l0 x8_1).f3).length c269_3)).heap[gb270]? = some (.cells #[.string ((rd_T34 l0 x8_1).f0), .string ((rd_T34 l0 x8_1).f1), .bool ((rd_T34 l0 x8_1).f2), .slice A269_3 ((rd_T34 l0 x8_1).f3).length c269_3] 34 (0, 0))) := ⟨by (with_reducible repeat (first | refine blk_drewN ?_ _ | refine blk_drew ?_ | refine blk_alloc ?_ _)); refine blk_put (cs := #[.string ((rd_T34 l0 x8_1).f0), .string ((rd_T34 l0 x8_1).f1), .bool ((rd_T34 l0 x8_1).f2), .slice none 0 0]) ?_ 3 _ rfl; (with_reducible repeat (first | refine blk_drewN ?_ _ | refine blk_drew ?_ | refine blk_alloc ?_ _)); refine blk_put (cs := #[.string ((rd_T34 l0 x8_1).f0), .string ((rd_T34 l0 x8_1).f1), .bool false, .slice none 0 0]) ?_ 2 _ rfl; (with_reducible repeat (first | refine blk_drewN ?_ _ | refine blk_drew ?_ | refine blk_alloc ?_ _)); refine blk_put (cs := #[.string ((rd_T34 l0 x8_1).f0), .string (⟨#[]⟩ : ByteArray), .bool false, .slice none 0 0]) ?_ 1 _ rfl; (with_reducible repeat (first | refine blk_drewN ?_ _ | refine blk_drew ?_ | refine blk_alloc ?_ _)); refine blk_put (cs := #[.string (⟨#[]⟩ : ByteArray), .string (⟨#[]⟩ : ByteArray), .bool false, .slice none 0 0]) ?_ 0 _ rfl; (with_reducible repeat (first | refine blk_drewN ?_ _ | refine blk_drew ?_ | refine blk_alloc ?_ _)); exact BK270.out⟩
              have n2_ : Aside0 (Below w.heap.size w ((((w9.setCell ⟨gb270, 0, none⟩ (.string ((rd_T34 l0 x8_1).f0))).setCell ⟨gb270, 1, none⟩ (.string ((rd_T34 l0 x8_1).f1))).setCell ⟨gb270, 2, none⟩ (.bool ((rd_T34 l0 x8_1).f2))).setCell ⟨gb270, 3, none⟩ (.slice A269_3 ((rd_T34 l0 x8_1).f3).length c269_3))) := ⟨by repeat (first | (with_reducible first | exact HB.out | apply below_alloc | apply pw_below_drewN | apply below_drew1 | refine below_set ?_ GE270.out) | exact HB.out)⟩
              (try clear HO_3)
              (try clear BK270)
              (try clear HB)
              generalize ((((w9.setCell ⟨gb270, 0, none⟩ (.string ((rd_T34 l0 x8_1).f0))).setCell ⟨gb270, 1, none⟩ (.string ((rd_T34 l0 x8_1).f1))).setCell ⟨gb270, 2, none⟩ (.bool ((rd_T34 l0 x8_1).f2))).setCell ⟨gb270, 3, none⟩ (.slice A269_3 ((rd_T34 l0 x8_1).f3).length c269_3)) = w11 at n0_ n1_ n2_ ⊢
              have HO_3 := n0_
              have BK270 := n1_
              have HB := n2_
              clear n0_ n1_ n2_
              have n0_ := Aside0.mk (Kd.R_drew HO_3.out)
              have n1_ := Aside0.mk (blk_drew BK270.out)
              have n2_ := Aside0.mk (below_drew1 HB.out)
              clear HO_3
              clear BK270
              clear HB
              have HO_3 := n0_
              have BK270 := n1_
              have HB := n2_
              clear n0_ n1_ n2_
              refine start_ (n := 16) (S := fun w' => w'.cell? ⟨gb270, 0, none⟩ = some (.string ((rd_T34 l0 x8_1).f0)) ∧ w'.cell? ⟨gb270, 1, none⟩ = some (.string ((rd_T34 l0 x8_1).f1)) ∧ w'.cell? ⟨gb270, 2, none⟩ = some (.bool ((rd_T34 l0 x8_1).f2)) ∧ w'.cell? ⟨gb270, 3, none⟩ = some (.slice A269_3 ((rd_T34 l0 x8_1).f3).length c269_3)) (ds := []) #[false, false, false, false, false, false, false, false, false, false, false, false, false, false, false, false] (by kernel_rfl) rfl rfl ⟨(blk_cell BK270.out 0).trans rfl, (blk_cell BK270.out 1).trans rfl, (blk_cell BK270.out 2).trans rfl, (blk_cell BK270.out 3).trans rfl⟩ (fun hHeld => ?_); refine with_tabW spec_utf8.tab5 spec_utf8.bits5 (fun HT_ HW_ => ?_)
              generalize w11.drew = w12 at HO_3 BK270 HB hHeld ⊢
              refine pure_ (i := 0) (N := some 12) (v := ?_) (a' := ?_) #[true, false, false, false, false, false, false, false, false, false, false, false, false, false, false, false] rfl rfl (any_of HT_.out (by kernel_rfl)) (fun _ _ _ h => h) (Or.inl ⟨by rfl, ?_⟩) ?_ ?_
              rotate_left
              · intro w'
                go_simp
                with_reducible rfl
              rotate_left
              · simp only [Act.put, List.setIfInBounds_toArray, List.set_cons_zero, List.set_cons_succ, i64_w, i32_w]
                rfl
              refine pure_ (i := 1) (N := some 13) (v := ?_) (a' := ?_) #[true, true, false, false, false, false, false, false, false, false, false, false, false, false, false, false] rfl rfl (any_of HT_.out (by kernel_rfl)) (fun _ _ _ h => h) (Or.inl ⟨by rfl, ?_⟩) ?_ ?_
              rotate_left
              · intro w'
                go_simp
                with_reducible rfl
              rotate_left
              · simp only [Act.put, List.setIfInBounds_toArray, List.set_cons_zero, List.set_cons_succ, i64_w, i32_w]
                rfl
              refine pure_ (i := 4) (N := some 16) (v := ?_) (a' := ?_) #[true, true, false, false, true, false, false, false, false, false, false, false, false, false, false, false] rfl rfl (any_of HT_.out (by kernel_rfl)) (fun _ _ _ h => h) (Or.inl ⟨by rfl, ?_⟩) ?_ ?_
              rotate_left
              · intro w'
                go_simp
                with_reducible rfl
              rotate_left
              · simp only [Act.put, List.setIfInBounds_toArray, List.set_cons_zero, List.set_cons_succ, i64_w, i32_w]
                rfl
              refine pure_ (i := 7) (N := some 19) (v := ?_) (a' := ?_) #[true, true, false, false, true, false, false, true, false, false, false, false, false, false, false, false] rfl rfl (any_of HT_.out (by kernel_rfl)) (fun _ _ _ h => h) (Or.inl ⟨by rfl, ?_⟩) ?_ ?_
              rotate_left
              · intro w'
                go_simp
                with_reducible rfl
              rotate_left
              · simp only [Act.put, List.setIfInBounds_toArray, List.set_cons_zero, List.set_cons_succ, i64_w, i32_w]
                rfl
              refine pure_ (i := 9) (N := some 21) (v := ?_) (a' := ?_) #[true, true, false, false, true, false, false, true, false, true, false, false, false, false, false, false] rfl rfl (any_of HT_.out (by kernel_rfl)) (fun _ _ _ h => h) (Or.inl ⟨by rfl, ?_⟩) ?_ ?_
              rotate_left
              · intro w'
                go_simp
                with_reducible rfl
              rotate_left
              · simp only [Act.put, List.setIfInBounds_toArray, List.set_cons_zero, List.set_cons_succ, i64_w, i32_w]
                rfl
              refine take_ (i := 2) (N := some 14) (v := ?_) (a' := ?_) #[true, true, true, false, true, false, false, true, false, true, false, false, false, false, false, false] rfl rfl (take_ofW HT_.out HW_.out (by kernel_rfl)) (fun _ _ _ h => h) (Or.inl ⟨by rfl, ?_⟩) hHeld ?_ ?_
              rotate_left
              · rintro w' ⟨s0, s1, s2, s3⟩
                go_simp
                with_reducible rfl
              rotate_left
              · simp only [Act.put, List.setIfInBounds_toArray, List.set_cons_zero, List.set_cons_succ, i64_w, i32_w]
                rfl
              refine take_ (i := 5) (N := some 17) (v := ?_) (a' := ?_) #[true, true, true, false, true, true, false, true, false, true, false, false, false, false, false, false] rfl rfl (take_ofW HT_.out HW_.out (by kernel_rfl)) (fun _ _ _ h => h) (Or.inl ⟨by rfl, ?_⟩) hHeld ?_ ?_
              rotate_left
              · rintro w' ⟨s0, s1, s2, s3⟩
                go_simp
                with_reducible rfl
              rotate_left
              · simp only [Act.put, List.setIfInBounds_toArray, List.set_cons_zero, List.set_cons_succ, i64_w, i32_w]
                rfl
              refine take_ (i := 8) (N := some 20) (v := ?_) (a' := ?_) #[true, true, true, false, true, true, false, true, true, true, false, false, false, false, false, false] rfl rfl (take_ofW HT_.out HW_.out (by kernel_rfl)) (fun _ _ _ h => h) (Or.inl ⟨by rfl, ?_⟩) hHeld ?_ ?_
              rotate_left
              · rintro w' ⟨s0, s1, s2, s3⟩
                go_simp
                with_reducible rfl
              rotate_left
              · simp only [Act.put, List.setIfInBounds_toArray, List.set_cons_zero, List.set_cons_succ, i64_w, i32_w]
                rfl
              refine take_ (i := 10) (N := some 22) (v := ?_) (a' := ?_) #[true, true, true, false, true, true, false, true, true, true, true, false, false, false, false, false] rfl rfl (take_ofW HT_.out HW_.out (by kernel_rfl)) (fun _ _ _ h => h) (Or.inl ⟨by rfl, ?_⟩) hHeld ?_ ?_
              rotate_left
              · rintro w' ⟨s0, s1, s2, s3⟩
                go_simp
                with_reducible rfl
              rotate_left
              · simp only [Act.put, List.setIfInBounds_toArray, List.set_cons_zero, List.set_cons_succ, i64_w, i32_w]
                rfl
              refine one_ (i := 3) (N := some 15) #[true, true, true, true, true, true, false, true, true, true, true, false, false, false, false, false] rfl rfl (one_of HT_.out (by kernel_rfl)) (by decide) (fun K hK => ?_)
              refine goes_ Tryz.func13 (by kernel_rfl) rfl #[.string ((rd_T34 l0 x8_1).f0)] (by rfl) rfl rfl (by (try simp only [List.map_toArray, List.map_cons, List.map_nil]); first | done | rfl | (simp only [List.length_drop, List.length_take]; rfl)) ?_
              with_reducible refine (spec_Coerced.calls k1 ((rd_T34 l0 x8_1).f0) t271 _ A5.out).mono ?_
              rintro e w' ⟨rfl, ⟨nd, rfl⟩⟩
              refine ⟨_, rfl, ?_⟩
              refine hK.out _ _ ⟨(blk_cell BK270.out 0).trans rfl, (blk_cell BK270.out 1).trans rfl, (blk_cell BK270.out 2).trans rfl, (blk_cell BK270.out 3).trans rfl⟩ (fun hHeld => ?_)
              clear hK K
              refine norm_ (a' := ?_) ?_ ?_
              rotate_left
              · show Act.put _ (some 15) _ = _
                simp only [Act.put, List.setIfInBounds_toArray, List.set_cons_zero, List.set_cons_succ, i64_w, i32_w]
                rfl
              refine one_ (i := 6) (N := some 18) #[true, true, true, true, true, true, true, true, true, true, true, false, false, false, false, false] rfl rfl (one_of HT_.out (by kernel_rfl)) (by decide) (fun K hK => ?_)
              refine goes_ Tryz.func13 (by kernel_rfl) rfl #[.string ((rd_T34 l0 x8_1).f1)] (by rfl) rfl rfl (by (try simp only [List.map_toArray, List.map_cons, List.map_nil]); first | done | rfl | (simp only [List.length_drop, List.length_take]; rfl)) ?_
              with_reducible refine (spec_Coerced.calls k1 ((rd_T34 l0 x8_1).f1) t272 _ A6.out).mono ?_
              rintro e w' ⟨rfl, ⟨nd, rfl⟩⟩
              refine ⟨_, rfl, ?_⟩
              refine hK.out _ _ ⟨(blk_cell BK270.out 0).trans rfl, (blk_cell BK270.out 1).trans rfl, (blk_cell BK270.out 2).trans rfl, (blk_cell BK270.out 3).trans rfl⟩ (fun hHeld => ?_)
              clear hK K
              refine norm_ (a' := ?_) ?_ ?_
              rotate_left
              · show Act.put _ (some 18) _ = _
                simp only [Act.put, List.setIfInBounds_toArray, List.set_cons_zero, List.set_cons_succ, i64_w, i32_w]
                rfl
              refine one_ (i := 11) (N := some 23) #[true, true, true, true, true, true, true, true, true, true, true, true, false, false, false, false] rfl rfl (one_of HT_.out (by kernel_rfl)) (by decide) (fun K hK => ?_)
              refine goes_ Tryz.func22 (by kernel_rfl) rfl #[.slice A269_3 ((rd_T34 l0 x8_1).f3).length c269_3] (by rfl) rfl rfl (by (try simp only [List.map_toArray, List.map_cons, List.map_nil]); first | done | rfl | (simp only [List.length_drop, List.length_take]; rfl)) ?_
              with_reducible refine (ih k1 (by have := HK1.out; omega) _ _ ((rd_T34 l0 x8_1).f3) t273 _ ?side1 ?side2 A7.out).mono ?_
              (case side1 => repeat (first | exact (Kd.C_below HR269_3.out (by repeat (first | (with_reducible first | exact HB.out | apply below_alloc | apply pw_below_drewN | apply below_drew1 | refine below_set ?_ GE270.out) | exact HB.out))) | (with_reducible refine Kd.C_alloc ?_ _) | (with_reducible refine Kd.C_drewN ?_ _) | (with_reducible refine Kd.C_drew ?_)))
              (case side2 => exact HC269_3.out)
              rintro e w13 ⟨v274, rfl, ho0, hb⟩
              refine ⟨_, rfl, ?_⟩
              have n0_ := Aside0.mk (Kd.R_elder' (by (with_reducible repeat (first | apply Kd.R_alloc | apply Kd.R_drewN | apply Kd.R_drew)); exact HO_3.out) (Kd.R_base ho0) hb)
              have n1_ := Aside0.mk (Kd.R_lower (Kd.R_newB (Kd.R_new' ho0 (Kd.R_lt (by (with_reducible repeat (first | apply Kd.R_alloc | apply Kd.R_drewN | apply Kd.R_drew)); exact HO_3.out))) (g := gb270) (o := .cells #[.string ((rd_T34 l0 x8_1).f0), .string ((rd_T34 l0 x8_1).f1), .bool ((rd_T34 l0 x8_1).f2), .slice A269_3 ((rd_T34 l0 x8_1).f3).length c269_3] 34 (0, 0)) (by (with_reducible repeat (first | refine blk_drewN ?_ _ | refine blk_drew ?_ | refine blk_alloc ?_ _)); exact BK270.out)) (below_size (by repeat (first | (with_reducible first | exact HB.out | apply below_alloc | apply pw_below_drewN | apply below_drew1 | refine below_set ?_ GE270.out) | exact HB.out))))
              have n2_ := Aside0.mk (blk_below (g := gb270) (o := .cells #[.string ((rd_T34 l0 x8_1).f0), .string ((rd_T34 l0 x8_1).f1), .bool ((rd_T34 l0 x8_1).f2), .slice A269_3 ((rd_T34 l0 x8_1).f3).length c269_3] 34 (0, 0)) (by (with_reducible repeat (first | refine blk_drewN ?_ _ | refine blk_drew ?_ | refine blk_alloc ?_ _)); exact BK270.out) hb)
              have n3_ := Aside0.mk (below_step (by repeat (first | (with_reducible first | exact HB.out | apply below_alloc | apply pw_below_drewN | apply below_drew1 | refine below_set ?_ GE270.out) | exact HB.out)) hb)
              clear HO_3
              clear BK270
              clear HB
              have HO_3 := n0_
              have HO275 := n1_
              have BK270 := n2_
              have HB := n3_
              clear n0_ n1_ n2_ n3_
              (try clear hb)
              (try clear hb2)
              (try clear hk)
              (try clear hi)
              (try clear ho0)
              obtain ⟨Ao14, co14, eo14⟩ := Kd.R_slice HO275.out
              (first | subst eo14 | (injection eo14 with f1_ f2_ f3_; have f4_ := f1_.symm; have f5_ := f3_.symm; clear f1_ f2_ f3_; subst f4_; subst f5_))
              refine hK.out _ _ ⟨(blk_cell BK270.out 0).trans rfl, (blk_cell BK270.out 1).trans rfl, (blk_cell BK270.out 2).trans rfl, (blk_cell BK270.out 3).trans rfl⟩ (fun hHeld => ?_)
              clear hK K
              refine norm_ (a' := ?_) ?_ ?_
              rotate_left
              · show Act.put _ (some 23) _ = _
                simp only [Act.put, List.setIfInBounds_toArray, List.set_cons_zero, List.set_cons_succ, i64_w, i32_w]
                rfl
              refine pure_ (i := 12) (N := some 24) (v := ?_) (a' := ?_) #[true, true, true, true, true, true, true, true, true, true, true, true, true, false, false, false] rfl rfl (any_of HT_.out (by kernel_rfl)) (fun _ _ _ h => h) (Or.inl ⟨by rfl, ?_⟩) ?_ ?_
              rotate_left
              · intro w'
                go_simp
                with_reducible rfl
              rotate_left
              · simp only [Act.put, List.setIfInBounds_toArray, List.set_cons_zero, List.set_cons_succ, i64_w, i32_w]
                rfl
              refine one_ (i := 13) (N := some 25) #[true, true, true, true, true, true, true, true, true, true, true, true, true, true, false, false] rfl rfl (one_of HT_.out (by kernel_rfl)) (by decide) (fun K hK => ?_)
              refine value_ (w1 := ?_) (v := ?_) (by rfl) rfl ?_ ?_
              rotate_left 2
              · go_simp
                constructor
                · rfl
                · rfl
              refine hK.out _ _ ⟨(blk_cell (blk_alloc BK270.out _) 0).trans rfl, (blk_cell (blk_alloc BK270.out _) 1).trans rfl, (blk_cell (blk_alloc BK270.out _) 2).trans rfl, (blk_cell (blk_alloc BK270.out _) 3).trans rfl⟩ (fun hHeld => ?_)
              clear hK K
              refine norm_ (a' := ?_) ?_ ?_
              rotate_left
              · show Act.put _ (some 25) _ = _
                simp only [Act.put, List.setIfInBounds_toArray, List.set_cons_zero, List.set_cons_succ, i64_w, i32_w]
                rfl
              refine one_ (i := 14) (N := some 26) #[true, true, true, true, true, true, true, true, true, true, true, true, true, true, true, false] rfl rfl (one_of HT_.out (by kernel_rfl)) (by decide) (fun K hK => ?_)
              refine Kd.R_append_step k34 (w0 := w) w.heap.size (by rfl) (.tmp 12) (.tmp 25) 23 34 (.agg #[(.string ⟨#[]⟩), (.string ⟨#[]⟩), (.bool false), (.slice none 0 0)]) 64 rfl Tryz.underlying23 info34 rfl (by decide) (by omega) u3 x3_1 (⟨t271, t272, (rd_T34 l0 x8_1).f2, t273⟩ : S34) [.string t271, .string t272, .bool ((rd_T34 l0 x8_1).f2), .slice Ao14 t273.length co14] (fun k_ => k_ ≠ gb270) (fun k_ => ((fun k_ => k_ ≠ gb270)) k_ ∧ some k_ ≠ (u3 : Value).ownBlock) rfl rfl ?aP (fun _ hk => hk) ?aF ?aO ?aB ?aS ?aL ?_
              (case aP => exact k34_mkM _ _ _ (⟨t271, t272, (rd_T34 l0 x8_1).f2, t273⟩ : S34) (Kd.R_mono (HO275.out) (fun k_ hk => ⟨hk.2, hk.1.2⟩)))
              (case aB => exact (by repeat (first | (with_reducible first | exact HB.out | apply below_alloc | apply pw_below_drewN | apply below_drew1 | refine below_set ?_ GE270.out) | exact HB.out)))
              (case aF => exact (fun k_ hk => Kd.freshB (g := gb270) (o := .cells #[.string ((rd_T34 l0 x8_1).f0), .string ((rd_T34 l0 x8_1).f1), .bool ((rd_T34 l0 x8_1).f2), .slice A269_3 ((rd_T34 l0 x8_1).f3).length c269_3] 34 (0, 0)) (by (with_reducible repeat (first | refine blk_drewN ?_ _ | refine blk_drew ?_ | refine blk_alloc ?_ _)); exact BK270.out) k_ hk))
              (case aO => exact (by (with_reducible repeat (first | apply Kd.R_alloc | apply Kd.R_drewN | apply Kd.R_drew)); exact Kd.R_mono HO_3.out (fun _ hk => hk.1)))
              (case aS => exact (below_size (by repeat (first | (with_reducible first | exact HB.out | apply below_alloc | apply pw_below_drewN | apply below_drew1 | refine below_set ?_ GE270.out) | exact HB.out))))
              (case aL => have := LMc8.out; omega)
              intro v277 w15 ho hb hg hat
              rw [← Ny276.out] at ho
              have n0_ := Aside0.mk (blk_grown (g := gb270) (o := .cells #[.string ((rd_T34 l0 x8_1).f0), .string ((rd_T34 l0 x8_1).f1), .bool ((rd_T34 l0 x8_1).f2), .slice A269_3 ((rd_T34 l0 x8_1).f3).length c269_3] 34 (0, 0)) (by (with_reducible repeat (first | refine blk_drewN ?_ _ | refine blk_drew ?_ | refine blk_alloc ?_ _)); exact BK270.out) hg (Kd.R_away HO_3.out (fun _ hk => hk.1)))
              have n1_ := Aside0.mk (hb)
              have n2_ := Aside0.mk (ho)
              clear BK270
              clear HB
              clear HO_3
              clear HO275
              have BK270 := n0_
              have HB := n1_
              have HO278 := n2_
              clear n0_ n1_ n2_
              clear ho hb hg hat
              refine hK.out _ _ ⟨(blk_cell BK270.out 0).trans rfl, (blk_cell BK270.out 1).trans rfl, (blk_cell BK270.out 2).trans rfl, (blk_cell BK270.out 3).trans rfl⟩ (fun hHeld => ?_)
              clear hK K
              refine norm_ (a' := ?_) ?_ ?_
              rotate_left
              · show Act.put _ (some 26) _ = _
                simp only [Act.put, List.setIfInBounds_toArray, List.set_cons_zero, List.set_cons_succ, i64_w, i32_w]
                rfl
              refine pure_ (i := 15) (N := some 3) (v := ?_) (a' := ?_) #[true, true, true, true, true, true, true, true, true, true, true, true, true, true, true, true] rfl rfl (any_of HT_.out (by kernel_rfl)) (fun _ _ _ h => h) (Or.inl ⟨by rfl, ?_⟩) ?_ ?_
              rotate_left
              · intro w'
                go_simp
                with_reducible rfl
              rotate_left
              · simp only [Act.put, List.setIfInBounds_toArray, List.set_cons_zero, List.set_cons_succ, i64_w, i32_w]
                rfl
              refine done_ (done_of HT_.out (by kernel_rfl)) ?_
              try go_wp2
              go_roundg k1
              case measure => have := HK1.out; omega
              case rel => exact ⟨(y276), (wrap64 (x8_1 + 1)), (by first | rfl | (simp; done) | (simp [*]; done)), H', ⟨by have := HK1.out; omega⟩, ⟨by (with_reducible repeat (first | apply Kd.R_alloc | apply Kd.R_drewN | apply Kd.R_drew)); exact Kd.R_mono HO278.out (fun _ hk => trivial)⟩, ⟨by repeat (first | (with_reducible first | exact HB.out | apply below_alloc | apply pw_below_drewN | apply below_drew1 | refine below_set ?_ GE270.out) | exact HB.out)⟩⟩
            · rw [if_neg c8] at H
              exact absurd H (by simp)
          · rw [if_neg c4] at H
            exact absurd H (by simp)
        · rw [if_neg c3] at H
          exact absurd H (by simp)
      · rw [if_neg c2] at H
        have c2b0 : decide (x8_1 < (l0.length : Int)) = false := decide_eq_false c2
        clear c2
        obtain rfl := Option.some.inj H
        go_wp2
        go_ret
        exact ⟨_, by first | rfl | (simp [errW_none, errW_some] <;> rfl) | (simp [*, errW_none, errW_some] <;> rfl), by (with_reducible repeat (first | apply Kd.R_alloc | apply Kd.R_drewN | apply Kd.R_drew)); exact HO_3.out, by repeat (first | (with_reducible first | exact HB.out | apply below_alloc | apply pw_below_drewN | apply below_drew1) | exact HB.out)⟩

-- NOT PRINTED: function 10 (spec_Members)

-- NOT PRINTED: function 29 (sloglines_TextLine)

-- NOT PRINTED: function 24 (impl_TextLine)

-- NOT PRINTED: function 11 (laws_works)

-- NOT PRINTED: function 3 (laws_FnJSONBack)


end Go.Proofs.YtcllhgajdcemiaaGreatDoor.PFnJSONBack
