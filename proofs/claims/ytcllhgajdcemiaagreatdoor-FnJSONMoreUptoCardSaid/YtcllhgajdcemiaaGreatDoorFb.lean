/-
  FShown: spec_Shown, AS print.sh OF THE KIT WROTE IT FOR THIS SEAT (taken out of its texts by extract.py, each function by itself): the Lean function and the proof that the Go function comes to its answers. No condition beyond those in the statements.
  FPlain: spec_Plain, AS print.sh OF THE KIT WROTE IT FOR THIS SEAT (taken out of its texts by extract.py, each function by itself): the Lean function and the proof that the Go function comes to its answers. No condition beyond those in the statements.
  FAttrs: impl_attrs, AS print.sh OF THE KIT WROTE IT FOR THIS SEAT (taken out of its texts by extract.py, each function by itself): the Lean function and the proof that the Go function comes to its answers. No condition beyond those in the statements.
-/
import Derived.Test.YtcllhgajdcemiaaGreatDoorWd
namespace Go.Proofs.YtcllhgajdcemiaaGreatDoor.PFnJSONBack
open Go.RowKit Go.Proofs.YtcllhgajdcemiaaGreatDoorW.PrintWords Go.Proofs.YtcllhgajdcemiaaGreatDoorW.PrintLast Go.Proofs.YtcllhgajdcemiaaGreatDoorW.PrintMore
attribute [local go_sem] max2_int min2_int max_two min_two max_three min_three max_four min_four
set_option linter.unusedVariables false
set_option linter.unusedSimpArgs false

/-! ### spec_Shown: function 23 -/
mutual
def spec_Shown.l0 : Nat → List (S34) → List (S34) → Int → Int → Option ((List (S34)))
  | 0, _, _, _, _ => none
  | k + 1, x3, x7, x8, x9 => if x9 < x8 then (if 0 ≤ x9 then (if x9 < (x7.length : Int) then (if ((rd_T34 x7 x9).f2 = true) then ((spec_Shown.f k ((rd_T34 x7 x9).f3)).bind fun t122 => (if (t122.length : Int) = 0 then (spec_Shown.l0 k x3 x7 x8 (wrap64 (x9 + 1))) else (if ((rd_T34 x7 x9).f0).toList = ([] : List UInt8) then (if x3.length + t122.length < 2199023255552 then (spec_Shown.l0 k (x3 ++ t122) x7 x8 (wrap64 (x9 + 1))) else (none)) else (if x3.length < 2199023255552 then (spec_Shown.l0 k (x3 ++ [(⟨(rd_T34 x7 x9).f0, (⟨#[]⟩ : ByteArray), true, t122⟩ : S34)]) x7 x8 (wrap64 (x9 + 1))) else (none))))) else (if x3.length < 2199023255552 then (spec_Shown.l0 k (x3 ++ [(⟨(rd_T34 x7 x9).f0, (rd_T34 x7 x9).f1, false, ([] : List (S34))⟩ : S34)]) x7 x8 (wrap64 (x9 + 1))) else (none))) else (none)) else (none)) else (some x3)
def spec_Shown.f : Nat → List (S34) → Option ((List (S34)))
  | 0, _ => none
  | k + 1, l0 => spec_Shown.l0 k ([] : List (S34)) l0 (l0.length : Int) 0
end
theorem spec_Shown.mono_l : ∀ k, (∀ y0, LeO (spec_Shown.f k y0) (spec_Shown.f (k + 1) y0)) ∧ (∀ y0 y1 y2 y3, LeO (spec_Shown.l0 k y0 y1 y2 y3) (spec_Shown.l0 (k + 1) y0 y1 y2 y3))
  | 0 => ⟨fun _ r h => by simp [spec_Shown.f] at h, fun _ _ _ _ r h => by simp [spec_Shown.l0] at h⟩
  | k + 1 => by
    obtain ⟨ih0, ih1⟩ := spec_Shown.mono_l k
    refine ⟨?_, ?_⟩
    · intro y0
      unfold spec_Shown.f
      repeat' first
      | (with_reducible exact ih0 _)
      | (with_reducible exact ih1 _ _ _ _)
      | (with_reducible exact LeO.refl _)
      | (with_reducible exact LeO.none _)
      | (with_reducible refine LeO.ite ?_ ?_)
      | (with_reducible refine LeO.bind ?_ (fun _ => ?_))
      | exact ih0 _
      | exact ih1 _ _ _ _
      | exact LeO.none _
      | refine LeO.ite ?_ ?_
      | refine LeO.bind ?_ (fun _ => ?_)
    · intro y0 y1 y2 y3
      unfold spec_Shown.l0
      repeat' first
      | (with_reducible exact ih0 _)
      | (with_reducible exact ih1 _ _ _ _)
      | (with_reducible exact LeO.refl _)
      | (with_reducible exact LeO.none _)
      | (with_reducible refine LeO.ite ?_ ?_)
      | (with_reducible refine LeO.bind ?_ (fun _ => ?_))
      | exact ih0 _
      | exact ih1 _ _ _ _
      | exact LeO.none _
      | refine LeO.ite ?_ ?_
      | refine LeO.bind ?_ (fun _ => ?_)
theorem spec_Shown.mono : ∀ a0 k, LeO (spec_Shown.f k a0) (spec_Shown.f (k + 1) a0) := by
  intro a0 k
  obtain ⟨ih0, ih1⟩ := spec_Shown.mono_l k
  exact ih0 a0
set_option maxHeartbeats 8000000 in
set_option maxRecDepth 100000 in
theorem spec_Shown.calls (k : Nat) : ∀ (A0 : Option Addr) (c0 : Nat) (l0 : List (S34)) (r : List (S34)) (w : World) (hr0 : Kd.C k34 w A0 l0.length l0) (hc0 : l0.length ≤ c0) (h : spec_Shown.f k l0 = some r),
    Calls Tryz.prog 23 #[.slice A0 l0.length c0] w fun e w' => ∃ v0_ : Value, e = .returned (v0_) ∧ Kd.N k34 34 w' w.heap.size (fun k_ => (w.heap.size ≤ k_)) v0_ r ∧ Below w.heap.size w w' := by
  induction k using Nat.strongRecOn with
  | _ k ih =>
  intro A0 c0 l0 r w hr0 hc0 h
  cases k with
  | zero => exact absurd h (by simp [spec_Shown.f])
  | succ k =>
  simp only [spec_Shown.f] at h
  have hu34 := Tryz.underlying34
  have HR0 := Aside0.mk hr0
  have HC0 := Aside0.mk hc0
  clear hr0 hc0
  have HB := Aside0.mk (Below.refl w.heap.size w)
  have H : (spec_Shown.l0 k ([] : List (S34)) l0 (l0.length : Int) 0) = some r := h
  clear h
  have H' := Aside0.mk H
  clear H
  go_enter Tryz.func23, Tryz.ntmps23
  go_wp2
  go_loopg [3, 9] k (fun kq v3 v9 w' => ∃ (x3_1 : List (S34)) (x9_1 : Int), v9 = .int .i64 x9_1 ∧ Aside0 (spec_Shown.l0 kq x3_1 l0 (l0.length : Int) x9_1 = some r) ∧ Aside0 (kq ≤ k) ∧ Aside0 (Kd.N k34 34 w' w.heap.size (fun k_ => (w.heap.size ≤ k_)) v3 x3_1) ∧ Aside0 (Below w.heap.size w w'))
  case atStart => exact ⟨(([] : List (S34))), (0), (by first | rfl | (simp; done) | (simp [*]; done)), H', ⟨Nat.le_refl _⟩, ⟨by first | exact Kd.R_nil _ _ _ _ _ | exact Kd.N_nil _ _ _ _ _ | exact Kd.V_nil _ _ _ _ _ | exact Kd.Q_nil _ _ _ _ _ | exact Kd.S_nil _ _ _ _ _⟩, ⟨by repeat (first | (with_reducible first | exact HB.out | apply below_alloc | apply pw_below_drewN | apply below_drew1) | exact HB.out)⟩⟩
  case round =>
    clear H'
    obtain ⟨x3_1, x9_1, rfl, HA, HK1, HO_3, HB⟩ := hrel
    cases gk with
    | zero => exact absurd HA.out (by simp [spec_Shown.l0])
    | succ k1 =>
      have H := HA.out
      clear HA
      simp only [spec_Shown.l0] at H
      by_cases c2 : x9_1 < (l0.length : Int)
      · rw [if_pos c2] at H
        have c2b0 : decide (x9_1 < (l0.length : Int)) = true := decide_eq_true c2
        clear c2
        by_cases c3 : 0 ≤ x9_1
        · rw [if_pos c3] at H
          have c3b0 : decide (0 ≤ x9_1) = true := decide_eq_true c3
          clear c3
          by_cases c4 : x9_1 < (l0.length : Int)
          · rw [if_pos c4] at H
            have c4b0 : decide (x9_1 < (l0.length : Int)) = true := decide_eq_true c4
            clear c4
            obtain ⟨bq5, hbq5⟩ : ∃ b_ : Bool, b_ = ((rd_T34 l0 x9_1).f2) := ⟨_, rfl⟩
            replace H : (if (bq5 = true) then ((spec_Shown.f k1 ((rd_T34 l0 x9_1).f3)).bind fun t122 => (if (t122.length : Int) = 0 then (spec_Shown.l0 k1 x3_1 l0 (l0.length : Int) (wrap64 (x9_1 + 1))) else (if ((rd_T34 l0 x9_1).f0).toList = ([] : List UInt8) then (if x3_1.length + t122.length < 2199023255552 then (spec_Shown.l0 k1 (x3_1 ++ t122) l0 (l0.length : Int) (wrap64 (x9_1 + 1))) else (none)) else (if x3_1.length < 2199023255552 then (spec_Shown.l0 k1 (x3_1 ++ [(⟨(rd_T34 l0 x9_1).f0, (⟨#[]⟩ : ByteArray), true, t122⟩ : S34)]) l0 (l0.length : Int) (wrap64 (x9_1 + 1))) else (none))))) else (if x3_1.length < 2199023255552 then (spec_Shown.l0 k1 (x3_1 ++ [(⟨(rd_T34 l0 x9_1).f0, (rd_T34 l0 x9_1).f1, false, ([] : List (S34))⟩ : S34)]) l0 (l0.length : Int) (wrap64 (x9_1 + 1))) else (none))) = some r := by rw [← hbq5] at H; exact H
            have Nbq5 := Aside0.mk hbq5
            clear hbq5
            by_cases c6 : (bq5 = true)
            · subst c6
              have H1 : ((spec_Shown.f k1 ((rd_T34 l0 x9_1).f3)).bind fun t122 => (if (t122.length : Int) = 0 then (spec_Shown.l0 k1 x3_1 l0 (l0.length : Int) (wrap64 (x9_1 + 1))) else (if ((rd_T34 l0 x9_1).f0).toList = ([] : List UInt8) then (if x3_1.length + t122.length < 2199023255552 then (spec_Shown.l0 k1 (x3_1 ++ t122) l0 (l0.length : Int) (wrap64 (x9_1 + 1))) else (none)) else (if x3_1.length < 2199023255552 then (spec_Shown.l0 k1 (x3_1 ++ [(⟨(rd_T34 l0 x9_1).f0, (⟨#[]⟩ : ByteArray), true, t122⟩ : S34)]) l0 (l0.length : Int) (wrap64 (x9_1 + 1))) else (none))))) = some r := by rw [if_pos rfl] at H; exact H
              clear H
              have H := H1
              clear H1
              replace H := Option.bind_eq_some_iff.mp H
              obtain ⟨t122, A70, H⟩ := H
              replace H : (if (t122.length : Int) = 0 then (spec_Shown.l0 k1 x3_1 l0 (l0.length : Int) (wrap64 (x9_1 + 1))) else (if ((rd_T34 l0 x9_1).f0).toList = ([] : List UInt8) then (if x3_1.length + t122.length < 2199023255552 then (spec_Shown.l0 k1 (x3_1 ++ t122) l0 (l0.length : Int) (wrap64 (x9_1 + 1))) else (none)) else (if x3_1.length < 2199023255552 then (spec_Shown.l0 k1 (x3_1 ++ [(⟨(rd_T34 l0 x9_1).f0, (⟨#[]⟩ : ByteArray), true, t122⟩ : S34)]) l0 (l0.length : Int) (wrap64 (x9_1 + 1))) else (none)))) = some r := H
              have A7 := Aside0.mk A70
              clear A70
              by_cases c8 : (t122.length : Int) = 0
              · rw [if_pos c8] at H
                have c8b0 : ((t122.length : Int) == 0) = true := beq_iff_eq.mpr c8
                have c8b1 : ((t122.length : Int) != 0) = false := bne_eq_false_iff_eq.mpr c8
                clear c8
                have H' := Aside0.mk H
                clear H
                have p117 : 0 ≤ (x9_1 : Int) := of_decide_eq_true (by first | (with_reducible assumption) | assumption)
                have q117 : x9_1 < (l0.length : Int) := of_decide_eq_true (by first | (with_reducible assumption) | assumption)
                obtain ⟨ad117, A117_3, c117_3, e117, hx117_0, hx117_1, hx117_2, hx117_3, hl117_3, hi117_3⟩ := at_T34 HR0.out x9_1 p117 q117
                (try rw [← Nbq5.out] at hx117_2)
                cases e117
                replace hx117_0 := (HB.out.cell (World.block_lt_of_cell? w _ hx117_0)).trans hx117_0
                replace hx117_1 := (HB.out.cell (World.block_lt_of_cell? w _ hx117_1)).trans hx117_1
                replace hx117_2 := (HB.out.cell (World.block_lt_of_cell? w _ hx117_2)).trans hx117_2
                replace hx117_3 := (HB.out.cell (World.block_lt_of_cell? w _ hx117_3)).trans hx117_3
                have HR117_3 := Aside0.mk hi117_3
                have HC117_3 := Aside0.mk hl117_3
                clear hi117_3 hl117_3
                replace p117 := eq_true p117
                replace q117 := eq_true q117
                go_wp2_with (first | ((with_reducible refine gate_dst (N := 5) rfl ?_); refine box_event ?hg (N := 5) ?hd (cs := #[.string (⟨#[]⟩ : ByteArray), .string (⟨#[]⟩ : ByteArray), .bool false, .slice none 0 0]) (t := 34) ?hr ?_; (case hd => rfl); (case hg => rfl); (case hr => first | (go_simp; done) | (go_simp; rfl)); intro gb118 hg w9 hbox hb; have n0_ := Aside0.mk (Kd.N_below (Kd.N_elderB (by (with_reducible repeat (first | apply Kd.N_alloc | apply Kd.N_drewN | apply Kd.N_drew)); exact HO_3.out) gb118 (Nat.le_of_eq hg.symm)) hb); have n1_ := Aside0.mk (below_step (by repeat (first | (with_reducible first | exact HB.out | apply below_alloc | apply pw_below_drewN | apply below_drew1) | exact HB.out)) hb); have n2_ := Aside0.mk (hbox); have n3_ := Aside0.mk ((by rw [hg]; exact (below_size (by repeat (first | (with_reducible first | exact HB.out | apply below_alloc | apply pw_below_drewN | apply below_drew1) | exact HB.out))) : w.heap.size ≤ gb118)); have n4_ := Aside0.mk ((by rw [hg]; exact (below_size (by repeat (first | (with_reducible first | exact HB.out | apply below_alloc | apply pw_below_drewN | apply below_drew1) | exact HB.out))) : w.heap.size ≤ gb118)); clear HO_3; clear HB; have HO_3 := n0_; have HB := n1_; have BK118 := n2_; have GW118 := n3_; have GE118 := n4_; clear n0_ n1_ n2_ n3_ n4_; clear hb hbox hg; have hcz10_0 : w9.cell? ⟨gb118, 0, none⟩ = some (.string (⟨#[]⟩ : ByteArray)) := (blk_cell BK118.out 0).trans rfl; have hcz10_1 : w9.cell? ⟨gb118, 1, none⟩ = some (.string (⟨#[]⟩ : ByteArray)) := (blk_cell BK118.out 1).trans rfl; have hcz10_2 : w9.cell? ⟨gb118, 2, none⟩ = some (.bool false) := (blk_cell BK118.out 2).trans rfl; have hcz10_3 : w9.cell? ⟨gb118, 3, none⟩ = some (.slice none 0 0) := (blk_cell BK118.out 3).trans rfl; have hfz10_0 := blk_frozen BK118.out 0; have hfz10_1 := blk_frozen BK118.out 1; have hfz10_2 := blk_frozen BK118.out 2; have hfz10_3 := blk_frozen BK118.out 3) | ((with_reducible refine gate_callee (f := 23) rfl ?_); refine goesL_ (some 26) rfl rfl Tryz.func23 (by kernel_rfl) rfl #[.slice A117_3 ((rd_T34 l0 x9_1).f3).length c117_3] rfl (by (try simp only [List.map_toArray, List.map_cons, List.map_nil]); first | done | rfl | (simp only [List.length_drop, List.length_take]; rfl)) ?_; (with_reducible refine (ih k1 (by have := HK1.out; omega) _ _ ((rd_T34 l0 x9_1).f3) t122 _ ?side1 ?side2 A7.out).mono ?_); (case side1 => exact Kd.C_below HR117_3.out (by repeat (first | (with_reducible first | exact HB.out | apply below_alloc | apply pw_below_drewN | apply below_drew1 | refine below_set ?_ GE118.out) | exact HB.out))); (case side2 => exact HC117_3.out); rintro e w11 ⟨v123, rfl, ho0, hb⟩; refine ⟨_, rfl, ?_⟩; have n0_ := Aside0.mk (Kd.N_elder' (by (with_reducible repeat (first | apply Kd.N_alloc | apply Kd.N_drewN | apply Kd.N_drew)); exact (Kd.N_mono (Kd.N_far (p := ⟨gb118, 3, none⟩) (Kd.N_far (p := ⟨gb118, 2, none⟩) (Kd.N_far (p := ⟨gb118, 1, none⟩) (Kd.N_far (p := ⟨gb118, 0, none⟩) (Kd.N_mono HO_3.out (fun k_ hk => (⟨hk, hk.2⟩ : _ ∧ k_ ≠ gb118))) (fun _ hk => hk.2) (.string ((rd_T34 l0 x9_1).f0))) (fun _ hk => hk.2) (.string ((rd_T34 l0 x9_1).f1))) (fun _ hk => hk.2) (.bool true)) (fun _ hk => hk.2) (.slice A117_3 ((rd_T34 l0 x9_1).f3).length c117_3)) (fun _ h_ => h_.1))) (Kd.N_base ho0) hb); have n1_ := Aside0.mk (Kd.N_lower (Kd.N_mono (ok' := fun k_ => (w.heap.size ≤ k_) ∧ some k_ ≠ (u3 : Value).ownBlock ∧ k_ ≠ gb118) ho0 (fun k_ hk_ => ⟨(Nat.le_trans (below_size (by repeat (first | (with_reducible first | exact HB.out | apply below_alloc | apply pw_below_drewN | apply below_drew1 | refine below_set ?_ GE118.out) | exact HB.out))) hk_), (Kd.fresh' (Kd.N_lt (by (with_reducible repeat (first | apply Kd.N_alloc | apply Kd.N_drewN | apply Kd.N_drew)); exact (Kd.N_mono (Kd.N_far (p := ⟨gb118, 3, none⟩) (Kd.N_far (p := ⟨gb118, 2, none⟩) (Kd.N_far (p := ⟨gb118, 1, none⟩) (Kd.N_far (p := ⟨gb118, 0, none⟩) (Kd.N_mono HO_3.out (fun k_ hk => (⟨hk, hk.2⟩ : _ ∧ k_ ≠ gb118))) (fun _ hk => hk.2) (.string ((rd_T34 l0 x9_1).f0))) (fun _ hk => hk.2) (.string ((rd_T34 l0 x9_1).f1))) (fun _ hk => hk.2) (.bool true)) (fun _ hk => hk.2) (.slice A117_3 ((rd_T34 l0 x9_1).f3).length c117_3)) (fun _ h_ => h_.1)))) k_ hk_), (Kd.freshB (g := gb118) (o := .cells #[.string ((rd_T34 l0 x9_1).f0), .string ((rd_T34 l0 x9_1).f1), .bool true, .slice A117_3 ((rd_T34 l0 x9_1).f3).length c117_3] 34 (0, 0)) (by (with_reducible repeat (first | refine blk_drewN ?_ _ | refine blk_drew ?_ | refine blk_alloc ?_ _)); refine blk_put (cs := #[.string ((rd_T34 l0 x9_1).f0), .string ((rd_T34 l0 x9_1).f1), .bool true, .slice none 0 0]) ?_ 3 _ rfl; (with_reducible repeat (first | refine blk_drewN ?_ _ | refine blk_drew ?_ | refine blk_alloc ?_ _)); refine blk_put (cs := #[.string ((rd_T34 l0 x9_1).f0), .string ((rd_T34 l0 x9_1).f1), .bool false, .slice none 0 0]) ?_ 2 _ rfl; (with_reducible repeat (first | refine blk_drewN ?_ _ | refine blk_drew ?_ | refine blk_alloc ?_ _)); refine blk_put (cs := #[.string ((rd_T34 l0 x9_1).f0), .string (⟨#[]⟩ : ByteArray), .bool false, .slice none 0 0]) ?_ 1 _ rfl; (with_reducible repeat (first | refine blk_drewN ?_ _ | refine blk_drew ?_ | refine blk_alloc ?_ _)); refine blk_put (cs := #[.string (⟨#[]⟩ : ByteArray), .string (⟨#[]⟩ : ByteArray), .bool false, .slice none 0 0]) ?_ 0 _ rfl; (with_reducible repeat (first | refine blk_drewN ?_ _ | refine blk_drew ?_ | refine blk_alloc ?_ _)); exact BK118.out) k_ hk_)⟩)) (below_size (by repeat (first | (with_reducible first | exact HB.out | apply below_alloc | apply pw_below_drewN | apply below_drew1 | refine below_set ?_ GE118.out) | exact HB.out)))); have n2_ := Aside0.mk (blk_below (g := gb118) (o := .cells #[.string ((rd_T34 l0 x9_1).f0), .string ((rd_T34 l0 x9_1).f1), .bool true, .slice A117_3 ((rd_T34 l0 x9_1).f3).length c117_3] 34 (0, 0)) (by (with_reducible repeat (first | refine blk_drewN ?_ _ | refine blk_drew ?_ | refine blk_alloc ?_ _)); refine blk_put (cs := #[.string ((rd_T34 l0 x9_1).f0), .string ((rd_T34 l0 x9_1).f1), .bool true, .slice none 0 0]) ?_ 3 _ rfl; (with_reducible repeat (first | refine blk_drewN ?_ _ | refine blk_drew ?_ | refine blk_alloc ?_ _)); refine blk_put (cs := #[.string ((rd_T34 l0 x9_1).f0), .string ((rd_T34 l0 x9_1).f1), .bool false, .slice none 0 0]) ?_ 2 _ rfl; (with_reducible repeat (first | refine blk_drewN ?_ _ | refine blk_drew ?_ | refine blk_alloc ?_ _)); refine blk_put (cs := #[.string ((rd_T34 l0 x9_1).f0), .string (⟨#[]⟩ : ByteArray), .bool false, .slice none 0 0]) ?_ 1 _ rfl; (with_reducible repeat (first | refine blk_drewN ?_ _ | refine blk_drew ?_ | refine blk_alloc ?_ _)); refine blk_put (cs := #[.string (⟨#[]⟩ : ByteArray), .string (⟨#[]⟩ : ByteArray), .bool false, .slice none 0 0]) ?_ 0 _ rfl; (with_reducible repeat (first | refine blk_drewN ?_ _ | refine blk_drew ?_ | refine blk_alloc ?_ _)); exact BK118.out) hb); have n3_ := Aside0.mk (below_step (by repeat (first | (with_reducible first | exact HB.out | apply below_alloc | apply pw_below_drewN | apply below_drew1 | refine below_set ?_ GE118.out) | exact HB.out)) hb); clear HO_3; clear BK118; clear HB; have HO_3 := n0_; have HO124 := n1_; have BK118 := n2_; have HB := n3_; clear n0_ n1_ n2_ n3_; (try clear hb); (try clear hb2); (try clear hk); (try clear hi); (try clear ho0); obtain ⟨Ao12, co12, eo12⟩ := Kd.N_slice HO124.out; subst eo12))
                go_roundg k1
                case measure => have := HK1.out; omega
                case rel => exact ⟨(x3_1), (wrap64 (x9_1 + 1)), (by first | rfl | (simp; done) | (simp [*]; done)), H', ⟨by have := HK1.out; omega⟩, ⟨by (with_reducible repeat (first | apply Kd.N_alloc | apply Kd.N_drewN | apply Kd.N_drew)); exact Kd.N_mono HO_3.out (fun _ hk => hk.1.1)⟩, ⟨by repeat (first | (with_reducible first | exact HB.out | apply below_alloc | apply pw_below_drewN | apply below_drew1 | refine below_set ?_ GE118.out) | exact HB.out)⟩⟩
              · rw [if_neg c8] at H
                have c8b0 : ((t122.length : Int) == 0) = false := beq_eq_false_iff_ne.mpr c8
                have c8b1 : ((t122.length : Int) != 0) = true := bne_iff_ne.mpr c8
                have c8b2 : ¬ (t122 = []) := fun h_ => c8 (by rw [h_]; rfl)
                by_cases c13 : ((rd_T34 l0 x9_1).f0).toList = ([] : List UInt8)
                · rw [if_pos c13] at H
                  have c13b0 : (((rd_T34 l0 x9_1).f0).toList == ([] : List UInt8)) = true := beq_iff_eq.mpr c13
                  have c13b1 : (((rd_T34 l0 x9_1).f0).toList != ([] : List UInt8)) = false := bne_eq_false_iff_eq.mpr c13
                  clear c13
                  by_cases c14 : x3_1.length + t122.length < 2199023255552
                  · rw [if_pos c14] at H
                    have LMc14 := Aside0.mk c14
                    clear c14
                    obtain ⟨y125, hy125⟩ : ∃ y_ : List (S34), y_ = (x3_1 ++ t122) := ⟨_, rfl⟩
                    replace H : (spec_Shown.l0 k1 y125 l0 (l0.length : Int) (wrap64 (x9_1 + 1))) = some r := by first | (rw [hy125]; with_reducible exact H) | (have H2_ := (Option.bind_some _ _).symm.trans H; rw [hy125]; with_reducible exact H2_) | (have H2_ := (Option.bind_some _ _).symm.trans H; with_reducible exact H2_) | with_reducible exact H | (rw [hy125]; exact H) | exact H
                    have Ny125 := Aside0.mk hy125
                    clear hy125
                    have H' := Aside0.mk H
                    clear H
                    have p117 : 0 ≤ (x9_1 : Int) := of_decide_eq_true (by first | (with_reducible assumption) | assumption)
                    have q117 : x9_1 < (l0.length : Int) := of_decide_eq_true (by first | (with_reducible assumption) | assumption)
                    obtain ⟨ad117, A117_3, c117_3, e117, hx117_0, hx117_1, hx117_2, hx117_3, hl117_3, hi117_3⟩ := at_T34 HR0.out x9_1 p117 q117
                    (try rw [← Nbq5.out] at hx117_2)
                    cases e117
                    replace hx117_0 := (HB.out.cell (World.block_lt_of_cell? w _ hx117_0)).trans hx117_0
                    replace hx117_1 := (HB.out.cell (World.block_lt_of_cell? w _ hx117_1)).trans hx117_1
                    replace hx117_2 := (HB.out.cell (World.block_lt_of_cell? w _ hx117_2)).trans hx117_2
                    replace hx117_3 := (HB.out.cell (World.block_lt_of_cell? w _ hx117_3)).trans hx117_3
                    have HR117_3 := Aside0.mk hi117_3
                    have HC117_3 := Aside0.mk hl117_3
                    clear hi117_3 hl117_3
                    replace p117 := eq_true p117
                    replace q117 := eq_true q117
                    go_wp2_with (first | ((with_reducible refine gate_dst (N := 5) rfl ?_); refine box_event ?hg (N := 5) ?hd (cs := #[.string (⟨#[]⟩ : ByteArray), .string (⟨#[]⟩ : ByteArray), .bool false, .slice none 0 0]) (t := 34) ?hr ?_; (case hd => rfl); (case hg => rfl); (case hr => first | (go_simp; done) | (go_simp; rfl)); intro gb118 hg w15 hbox hb; have n0_ := Aside0.mk (Kd.N_below (Kd.N_elderB (by (with_reducible repeat (first | apply Kd.N_alloc | apply Kd.N_drewN | apply Kd.N_drew)); exact HO_3.out) gb118 (Nat.le_of_eq hg.symm)) hb); have n1_ := Aside0.mk (below_step (by repeat (first | (with_reducible first | exact HB.out | apply below_alloc | apply pw_below_drewN | apply below_drew1) | exact HB.out)) hb); have n2_ := Aside0.mk (hbox); have n3_ := Aside0.mk ((by rw [hg]; exact (below_size (by repeat (first | (with_reducible first | exact HB.out | apply below_alloc | apply pw_below_drewN | apply below_drew1) | exact HB.out))) : w.heap.size ≤ gb118)); have n4_ := Aside0.mk ((by rw [hg]; exact (below_size (by repeat (first | (with_reducible first | exact HB.out | apply below_alloc | apply pw_below_drewN | apply below_drew1) | exact HB.out))) : w.heap.size ≤ gb118)); clear HO_3; clear HB; have HO_3 := n0_; have HB := n1_; have BK118 := n2_; have GW118 := n3_; have GE118 := n4_; clear n0_ n1_ n2_ n3_ n4_; clear hb hbox hg; have hcz16_0 : w15.cell? ⟨gb118, 0, none⟩ = some (.string (⟨#[]⟩ : ByteArray)) := (blk_cell BK118.out 0).trans rfl; have hcz16_1 : w15.cell? ⟨gb118, 1, none⟩ = some (.string (⟨#[]⟩ : ByteArray)) := (blk_cell BK118.out 1).trans rfl; have hcz16_2 : w15.cell? ⟨gb118, 2, none⟩ = some (.bool false) := (blk_cell BK118.out 2).trans rfl; have hcz16_3 : w15.cell? ⟨gb118, 3, none⟩ = some (.slice none 0 0) := (blk_cell BK118.out 3).trans rfl; have hfz16_0 := blk_frozen BK118.out 0; have hfz16_1 := blk_frozen BK118.out 1; have hfz16_2 := blk_frozen BK118.out 2; have hfz16_3 := blk_frozen BK118.out 3) | ((with_reducible refine gate_callee (f := 23) rfl ?_); refine goesL_ (some 26) rfl rfl Tryz.func23 (by kernel_rfl) rfl #[.slice A117_3 ((rd_T34 l0 x9_1).f3).length c117_3] rfl (by (try simp only [List.map_toArray, List.map_cons, List.map_nil]); first | done | rfl | (simp only [List.length_drop, List.length_take]; rfl)) ?_; (with_reducible refine (ih k1 (by have := HK1.out; omega) _ _ ((rd_T34 l0 x9_1).f3) t122 _ ?side1 ?side2 A7.out).mono ?_); (case side1 => exact Kd.C_below HR117_3.out (by repeat (first | (with_reducible first | exact HB.out | apply below_alloc | apply pw_below_drewN | apply below_drew1 | refine below_set ?_ GE118.out) | exact HB.out))); (case side2 => exact HC117_3.out); rintro e w17 ⟨v123, rfl, ho0, hb⟩; refine ⟨_, rfl, ?_⟩; have n0_ := Aside0.mk (Kd.N_elder' (by (with_reducible repeat (first | apply Kd.N_alloc | apply Kd.N_drewN | apply Kd.N_drew)); exact (Kd.N_mono (Kd.N_far (p := ⟨gb118, 3, none⟩) (Kd.N_far (p := ⟨gb118, 2, none⟩) (Kd.N_far (p := ⟨gb118, 1, none⟩) (Kd.N_far (p := ⟨gb118, 0, none⟩) (Kd.N_mono HO_3.out (fun k_ hk => (⟨hk, hk.2⟩ : _ ∧ k_ ≠ gb118))) (fun _ hk => hk.2) (.string ((rd_T34 l0 x9_1).f0))) (fun _ hk => hk.2) (.string ((rd_T34 l0 x9_1).f1))) (fun _ hk => hk.2) (.bool true)) (fun _ hk => hk.2) (.slice A117_3 ((rd_T34 l0 x9_1).f3).length c117_3)) (fun _ h_ => h_.1))) (Kd.N_base ho0) hb); have n1_ := Aside0.mk (Kd.N_lower (Kd.N_mono (ok' := fun k_ => (w.heap.size ≤ k_) ∧ some k_ ≠ (u3 : Value).ownBlock ∧ k_ ≠ gb118) ho0 (fun k_ hk_ => ⟨(Nat.le_trans (below_size (by repeat (first | (with_reducible first | exact HB.out | apply below_alloc | apply pw_below_drewN | apply below_drew1 | refine below_set ?_ GE118.out) | exact HB.out))) hk_), (Kd.fresh' (Kd.N_lt (by (with_reducible repeat (first | apply Kd.N_alloc | apply Kd.N_drewN | apply Kd.N_drew)); exact (Kd.N_mono (Kd.N_far (p := ⟨gb118, 3, none⟩) (Kd.N_far (p := ⟨gb118, 2, none⟩) (Kd.N_far (p := ⟨gb118, 1, none⟩) (Kd.N_far (p := ⟨gb118, 0, none⟩) (Kd.N_mono HO_3.out (fun k_ hk => (⟨hk, hk.2⟩ : _ ∧ k_ ≠ gb118))) (fun _ hk => hk.2) (.string ((rd_T34 l0 x9_1).f0))) (fun _ hk => hk.2) (.string ((rd_T34 l0 x9_1).f1))) (fun _ hk => hk.2) (.bool true)) (fun _ hk => hk.2) (.slice A117_3 ((rd_T34 l0 x9_1).f3).length c117_3)) (fun _ h_ => h_.1)))) k_ hk_), (Kd.freshB (g := gb118) (o := .cells #[.string ((rd_T34 l0 x9_1).f0), .string ((rd_T34 l0 x9_1).f1), .bool true, .slice A117_3 ((rd_T34 l0 x9_1).f3).length c117_3] 34 (0, 0)) (by (with_reducible repeat (first | refine blk_drewN ?_ _ | refine blk_drew ?_ | refine blk_alloc ?_ _)); refine blk_put (cs := #[.string ((rd_T34 l0 x9_1).f0), .string ((rd_T34 l0 x9_1).f1), .bool true, .slice none 0 0]) ?_ 3 _ rfl; (with_reducible repeat (first | refine blk_drewN ?_ _ | refine blk_drew ?_ | refine blk_alloc ?_ _)); refine blk_put (cs := #[.string ((rd_T34 l0 x9_1).f0), .string ((rd_T34 l0 x9_1).f1), .bool false, .slice none 0 0]) ?_ 2 _ rfl; (with_reducible repeat (first | refine blk_drewN ?_ _ | refine blk_drew ?_ | refine blk_alloc ?_ _)); refine blk_put (cs := #[.string ((rd_T34 l0 x9_1).f0), .string (⟨#[]⟩ : ByteArray), .bool false, .slice none 0 0]) ?_ 1 _ rfl; (with_reducible repeat (first | refine blk_drewN ?_ _ | refine blk_drew ?_ | refine blk_alloc ?_ _)); refine blk_put (cs := #[.string (⟨#[]⟩ : ByteArray), .string (⟨#[]⟩ : ByteArray), .bool false, .slice none 0 0]) ?_ 0 _ rfl; (with_reducible repeat (first | refine blk_drewN ?_ _ | refine blk_drew ?_ | refine blk_alloc ?_ _)); exact BK118.out) k_ hk_)⟩)) (below_size (by repeat (first | (with_reducible first | exact HB.out | apply below_alloc | apply pw_below_drewN | apply below_drew1 | refine below_set ?_ GE118.out) | exact HB.out)))); have n2_ := Aside0.mk (blk_below (g := gb118) (o := .cells #[.string ((rd_T34 l0 x9_1).f0), .string ((rd_T34 l0 x9_1).f1), .bool true, .slice A117_3 ((rd_T34 l0 x9_1).f3).length c117_3] 34 (0, 0)) (by (with_reducible repeat (first | refine blk_drewN ?_ _ | refine blk_drew ?_ | refine blk_alloc ?_ _)); refine blk_put (cs := #[.string ((rd_T34 l0 x9_1).f0), .string ((rd_T34 l0 x9_1).f1), .bool true, .slice none 0 0]) ?_ 3 _ rfl; (with_reducible repeat (first | refine blk_drewN ?_ _ | refine blk_drew ?_ | refine blk_alloc ?_ _)); refine blk_put (cs := #[.string ((rd_T34 l0 x9_1).f0), .string ((rd_T34 l0 x9_1).f1), .bool false, .slice none 0 0]) ?_ 2 _ rfl; (with_reducible repeat (first | refine blk_drewN ?_ _ | refine blk_drew ?_ | refine blk_alloc ?_ _)); refine blk_put (cs := #[.string ((rd_T34 l0 x9_1).f0), .string (⟨#[]⟩ : ByteArray), .bool false, .slice none 0 0]) ?_ 1 _ rfl; (with_reducible repeat (first | refine blk_drewN ?_ _ | refine blk_drew ?_ | refine blk_alloc ?_ _)); refine blk_put (cs := #[.string (⟨#[]⟩ : ByteArray), .string (⟨#[]⟩ : ByteArray), .bool false, .slice none 0 0]) ?_ 0 _ rfl; (with_reducible repeat (first | refine blk_drewN ?_ _ | refine blk_drew ?_ | refine blk_alloc ?_ _)); exact BK118.out) hb); have n3_ := Aside0.mk (below_step (by repeat (first | (with_reducible first | exact HB.out | apply below_alloc | apply pw_below_drewN | apply below_drew1 | refine below_set ?_ GE118.out) | exact HB.out)) hb); clear HO_3; clear BK118; clear HB; have HO_3 := n0_; have HO124 := n1_; have BK118 := n2_; have HB := n3_; clear n0_ n1_ n2_ n3_; (try clear hb); (try clear hb2); (try clear hk); (try clear hi); (try clear ho0); obtain ⟨Ao18, co18, eo18⟩ := Kd.N_slice HO124.out; subst eo18; have hcz19_0 : w17.cell? ⟨gb118, 0, none⟩ = some (.string ((rd_T34 l0 x9_1).f0)) := (blk_cell BK118.out 0).trans rfl; have hcz19_1 : w17.cell? ⟨gb118, 1, none⟩ = some (.string ((rd_T34 l0 x9_1).f1)) := (blk_cell BK118.out 1).trans rfl; have hcz19_2 : w17.cell? ⟨gb118, 2, none⟩ = some (.bool true) := (blk_cell BK118.out 2).trans rfl; have hcz19_3 : w17.cell? ⟨gb118, 3, none⟩ = some (.slice A117_3 ((rd_T34 l0 x9_1).f3).length c117_3) := (blk_cell BK118.out 3).trans rfl; have hfz19_0 := blk_frozen BK118.out 0; have hfz19_1 := blk_frozen BK118.out 1; have hfz19_2 := blk_frozen BK118.out 2; have hfz19_3 := blk_frozen BK118.out 3) | ((with_reducible refine gate_builtin (b := .append) (xs := #[.tmp 42, .tmp 43]) rfl ?_); at_builtin; refine Kd.N_append_rows k34 (w0 := w) w.heap.size rfl (.tmp 42) (.tmp 43) 23 34 (.agg #[(.string ⟨#[]⟩), (.string ⟨#[]⟩), (.bool false), (.slice none 0 0)]) 64 rfl Tryz.underlying23 info34 rfl (by decide) (by omega) u3 x3_1 t122 _ _ _ (fun k_ => (w.heap.size ≤ k_) ∧ k_ ≠ gb118) (fun k_ => ((fun k_ => (w.heap.size ≤ k_) ∧ k_ ≠ gb118)) k_ ∧ some k_ ≠ (u3 : Value).ownBlock) rfl rfl ?aO ?aR (fun _ hk => hk) ?aF ?aB ?aS ?aL ?_; (case aR => exact (by skip; exact Kd.N_F (Kd.N_mono (ok' := (fun k_ => ((fun k_ => (w.heap.size ≤ k_) ∧ k_ ≠ gb118)) k_ ∧ some k_ ≠ (u3 : Value).ownBlock)) (HO124.out) (fun k_ hk => ⟨⟨hk.1, hk.2.2⟩, hk.2.1⟩)))); (case aB => exact (by repeat (first | (with_reducible first | exact HB.out | apply below_alloc | apply pw_below_drewN | apply below_drew1 | refine below_set ?_ GE118.out) | exact HB.out))); (case aF => exact (fun k_ hk => ⟨(Nat.le_trans (below_size (by repeat (first | (with_reducible first | exact HB.out | apply below_alloc | apply pw_below_drewN | apply below_drew1 | refine below_set ?_ GE118.out) | exact HB.out))) hk), Kd.freshB (g := gb118) (o := .cells #[.string ((rd_T34 l0 x9_1).f0), .string ((rd_T34 l0 x9_1).f1), .bool true, .slice A117_3 ((rd_T34 l0 x9_1).f3).length c117_3] 34 (0, 0)) (by (with_reducible repeat (first | refine blk_drewN ?_ _ | refine blk_drew ?_ | refine blk_alloc ?_ _)); exact BK118.out) k_ hk⟩)); (case aO => exact (by (with_reducible repeat (first | apply Kd.N_alloc | apply Kd.N_drewN | apply Kd.N_drew)); exact Kd.N_mono HO_3.out (fun _ hk => ⟨hk.1.1, hk.1.2⟩))); (case aS => exact (below_size (by repeat (first | (with_reducible first | exact HB.out | apply below_alloc | apply pw_below_drewN | apply below_drew1 | refine below_set ?_ GE118.out) | exact HB.out)))); (case aL => have := LMc14.out; omega); intro v126 w20 ho hb hg hat; rw [← Ny125.out] at ho; have n0_ := Aside0.mk (blk_grown (g := gb118) (o := .cells #[.string ((rd_T34 l0 x9_1).f0), .string ((rd_T34 l0 x9_1).f1), .bool true, .slice A117_3 ((rd_T34 l0 x9_1).f3).length c117_3] 34 (0, 0)) (by (with_reducible repeat (first | refine blk_drewN ?_ _ | refine blk_drew ?_ | refine blk_alloc ?_ _)); exact BK118.out) hg (Kd.N_away HO_3.out (fun _ hk => hk.1.2))); have n1_ := Aside0.mk (Kd.N_afterv (ok := (fun k_ => (w.heap.size ≤ k_) ∧ k_ ≠ gb118)) (by (with_reducible repeat (first | apply Kd.N_alloc | apply Kd.N_drewN | apply Kd.N_drew)); exact Kd.N_mono HO124.out (fun _ hk => ⟨⟨hk.1, hk.2.2⟩, hk.2.1⟩)) hg hat); have n2_ := Aside0.mk (hb); have n3_ := Aside0.mk (ho); clear BK118; clear HO124; clear HB; clear HO_3; have BK118 := n0_; have HO124 := n1_; have HB := n2_; have HO127 := n3_; clear n0_ n1_ n2_ n3_; clear ho hb hg hat))
                    go_roundg k1
                    case measure => have := HK1.out; omega
                    case rel => exact ⟨(y125), (wrap64 (x9_1 + 1)), (by first | rfl | (simp; done) | (simp [*]; done)), H', ⟨by have := HK1.out; omega⟩, ⟨by (with_reducible repeat (first | apply Kd.N_alloc | apply Kd.N_drewN | apply Kd.N_drew)); exact Kd.N_mono HO127.out (fun _ hk => hk.1)⟩, ⟨by repeat (first | (with_reducible first | exact HB.out | apply below_alloc | apply pw_below_drewN | apply below_drew1 | refine below_set ?_ GE118.out) | exact HB.out)⟩⟩
                  · rw [if_neg c14] at H
                    exact absurd H (by simp)
                · rw [if_neg c13] at H
                  have c13b0 : (((rd_T34 l0 x9_1).f0).toList == ([] : List UInt8)) = false := beq_eq_false_iff_ne.mpr c13
                  have c13b1 : (((rd_T34 l0 x9_1).f0).toList != ([] : List UInt8)) = true := bne_iff_ne.mpr c13
                  by_cases c21 : x3_1.length < 2199023255552
                  · rw [if_pos c21] at H
                    have LMc21 := Aside0.mk c21
                    clear c21
                    obtain ⟨y128, hy128⟩ : ∃ y_ : List (S34), y_ = (x3_1 ++ [(⟨(rd_T34 l0 x9_1).f0, (⟨#[]⟩ : ByteArray), true, t122⟩ : S34)]) := ⟨_, rfl⟩
                    replace H : (spec_Shown.l0 k1 y128 l0 (l0.length : Int) (wrap64 (x9_1 + 1))) = some r := by first | (rw [hy128]; with_reducible exact H) | (have H2_ := (Option.bind_some _ _).symm.trans H; rw [hy128]; with_reducible exact H2_) | (have H2_ := (Option.bind_some _ _).symm.trans H; with_reducible exact H2_) | with_reducible exact H | (rw [hy128]; exact H) | exact H
                    have Ny128 := Aside0.mk hy128
                    clear hy128
                    have H' := Aside0.mk H
                    clear H
                    have p117 : 0 ≤ (x9_1 : Int) := of_decide_eq_true (by first | (with_reducible assumption) | assumption)
                    have q117 : x9_1 < (l0.length : Int) := of_decide_eq_true (by first | (with_reducible assumption) | assumption)
                    obtain ⟨ad117, A117_3, c117_3, e117, hx117_0, hx117_1, hx117_2, hx117_3, hl117_3, hi117_3⟩ := at_T34 HR0.out x9_1 p117 q117
                    (try rw [← Nbq5.out] at hx117_2)
                    cases e117
                    replace hx117_0 := (HB.out.cell (World.block_lt_of_cell? w _ hx117_0)).trans hx117_0
                    replace hx117_1 := (HB.out.cell (World.block_lt_of_cell? w _ hx117_1)).trans hx117_1
                    replace hx117_2 := (HB.out.cell (World.block_lt_of_cell? w _ hx117_2)).trans hx117_2
                    replace hx117_3 := (HB.out.cell (World.block_lt_of_cell? w _ hx117_3)).trans hx117_3
                    have HR117_3 := Aside0.mk hi117_3
                    have HC117_3 := Aside0.mk hl117_3
                    clear hi117_3 hl117_3
                    replace p117 := eq_true p117
                    replace q117 := eq_true q117
                    go_wp2_with (first | ((with_reducible refine gate_dst (N := 5) rfl ?_); refine box_event ?hg (N := 5) ?hd (cs := #[.string (⟨#[]⟩ : ByteArray), .string (⟨#[]⟩ : ByteArray), .bool false, .slice none 0 0]) (t := 34) ?hr ?_; (case hd => rfl); (case hg => rfl); (case hr => first | (go_simp; done) | (go_simp; rfl)); intro gb118 hg w22 hbox hb; have n0_ := Aside0.mk (Kd.N_below (Kd.N_elderB (by (with_reducible repeat (first | apply Kd.N_alloc | apply Kd.N_drewN | apply Kd.N_drew)); exact HO_3.out) gb118 (Nat.le_of_eq hg.symm)) hb); have n1_ := Aside0.mk (below_step (by repeat (first | (with_reducible first | exact HB.out | apply below_alloc | apply pw_below_drewN | apply below_drew1) | exact HB.out)) hb); have n2_ := Aside0.mk (hbox); have n3_ := Aside0.mk ((by rw [hg]; exact (below_size (by repeat (first | (with_reducible first | exact HB.out | apply below_alloc | apply pw_below_drewN | apply below_drew1) | exact HB.out))) : w.heap.size ≤ gb118)); have n4_ := Aside0.mk ((by rw [hg]; exact (below_size (by repeat (first | (with_reducible first | exact HB.out | apply below_alloc | apply pw_below_drewN | apply below_drew1) | exact HB.out))) : w.heap.size ≤ gb118)); clear HO_3; clear HB; have HO_3 := n0_; have HB := n1_; have BK118 := n2_; have GW118 := n3_; have GE118 := n4_; clear n0_ n1_ n2_ n3_ n4_; clear hb hbox hg; have hcz23_0 : w22.cell? ⟨gb118, 0, none⟩ = some (.string (⟨#[]⟩ : ByteArray)) := (blk_cell BK118.out 0).trans rfl; have hcz23_1 : w22.cell? ⟨gb118, 1, none⟩ = some (.string (⟨#[]⟩ : ByteArray)) := (blk_cell BK118.out 1).trans rfl; have hcz23_2 : w22.cell? ⟨gb118, 2, none⟩ = some (.bool false) := (blk_cell BK118.out 2).trans rfl; have hcz23_3 : w22.cell? ⟨gb118, 3, none⟩ = some (.slice none 0 0) := (blk_cell BK118.out 3).trans rfl; have hfz23_0 := blk_frozen BK118.out 0; have hfz23_1 := blk_frozen BK118.out 1; have hfz23_2 := blk_frozen BK118.out 2; have hfz23_3 := blk_frozen BK118.out 3) | ((with_reducible refine gate_callee (f := 23) rfl ?_); refine goesL_ (some 26) rfl rfl Tryz.func23 (by kernel_rfl) rfl #[.slice A117_3 ((rd_T34 l0 x9_1).f3).length c117_3] rfl (by (try simp only [List.map_toArray, List.map_cons, List.map_nil]); first | done | rfl | (simp only [List.length_drop, List.length_take]; rfl)) ?_; (with_reducible refine (ih k1 (by have := HK1.out; omega) _ _ ((rd_T34 l0 x9_1).f3) t122 _ ?side1 ?side2 A7.out).mono ?_); (case side1 => exact Kd.C_below HR117_3.out (by repeat (first | (with_reducible first | exact HB.out | apply below_alloc | apply pw_below_drewN | apply below_drew1 | refine below_set ?_ GE118.out) | exact HB.out))); (case side2 => exact HC117_3.out); rintro e w24 ⟨v123, rfl, ho0, hb⟩; refine ⟨_, rfl, ?_⟩; have n0_ := Aside0.mk (Kd.N_elder' (by (with_reducible repeat (first | apply Kd.N_alloc | apply Kd.N_drewN | apply Kd.N_drew)); exact (Kd.N_mono (Kd.N_far (p := ⟨gb118, 3, none⟩) (Kd.N_far (p := ⟨gb118, 2, none⟩) (Kd.N_far (p := ⟨gb118, 1, none⟩) (Kd.N_far (p := ⟨gb118, 0, none⟩) (Kd.N_mono HO_3.out (fun k_ hk => (⟨hk, hk.2⟩ : _ ∧ k_ ≠ gb118))) (fun _ hk => hk.2) (.string ((rd_T34 l0 x9_1).f0))) (fun _ hk => hk.2) (.string ((rd_T34 l0 x9_1).f1))) (fun _ hk => hk.2) (.bool true)) (fun _ hk => hk.2) (.slice A117_3 ((rd_T34 l0 x9_1).f3).length c117_3)) (fun _ h_ => h_.1))) (Kd.N_base ho0) hb); have n1_ := Aside0.mk (Kd.N_lower (Kd.N_mono (ok' := fun k_ => (w.heap.size ≤ k_) ∧ some k_ ≠ (u3 : Value).ownBlock ∧ k_ ≠ gb118) ho0 (fun k_ hk_ => ⟨(Nat.le_trans (below_size (by repeat (first | (with_reducible first | exact HB.out | apply below_alloc | apply pw_below_drewN | apply below_drew1 | refine below_set ?_ GE118.out) | exact HB.out))) hk_), (Kd.fresh' (Kd.N_lt (by (with_reducible repeat (first | apply Kd.N_alloc | apply Kd.N_drewN | apply Kd.N_drew)); exact (Kd.N_mono (Kd.N_far (p := ⟨gb118, 3, none⟩) (Kd.N_far (p := ⟨gb118, 2, none⟩) (Kd.N_far (p := ⟨gb118, 1, none⟩) (Kd.N_far (p := ⟨gb118, 0, none⟩) (Kd.N_mono HO_3.out (fun k_ hk => (⟨hk, hk.2⟩ : _ ∧ k_ ≠ gb118))) (fun _ hk => hk.2) (.string ((rd_T34 l0 x9_1).f0))) (fun _ hk => hk.2) (.string ((rd_T34 l0 x9_1).f1))) (fun _ hk => hk.2) (.bool true)) (fun _ hk => hk.2) (.slice A117_3 ((rd_T34 l0 x9_1).f3).length c117_3)) (fun _ h_ => h_.1)))) k_ hk_), (Kd.freshB (g := gb118) (o := .cells #[.string ((rd_T34 l0 x9_1).f0), .string ((rd_T34 l0 x9_1).f1), .bool true, .slice A117_3 ((rd_T34 l0 x9_1).f3).length c117_3] 34 (0, 0)) (by (with_reducible repeat (first | refine blk_drewN ?_ _ | refine blk_drew ?_ | refine blk_alloc ?_ _)); refine blk_put (cs := #[.string ((rd_T34 l0 x9_1).f0), .string ((rd_T34 l0 x9_1).f1), .bool true, .slice none 0 0]) ?_ 3 _ rfl; (with_reducible repeat (first | refine blk_drewN ?_ _ | refine blk_drew ?_ | refine blk_alloc ?_ _)); refine blk_put (cs := #[.string ((rd_T34 l0 x9_1).f0), .string ((rd_T34 l0 x9_1).f1), .bool false, .slice none 0 0]) ?_ 2 _ rfl; (with_reducible repeat (first | refine blk_drewN ?_ _ | refine blk_drew ?_ | refine blk_alloc ?_ _)); refine blk_put (cs := #[.string ((rd_T34 l0 x9_1).f0), .string (⟨#[]⟩ : ByteArray), .bool false, .slice none 0 0]) ?_ 1 _ rfl; (with_reducible repeat (first | refine blk_drewN ?_ _ | refine blk_drew ?_ | refine blk_alloc ?_ _)); refine blk_put (cs := #[.string (⟨#[]⟩ : ByteArray), .string (⟨#[]⟩ : ByteArray), .bool false, .slice none 0 0]) ?_ 0 _ rfl; (with_reducible repeat (first | refine blk_drewN ?_ _ | refine blk_drew ?_ | refine blk_alloc ?_ _)); exact BK118.out) k_ hk_)⟩)) (below_size (by repeat (first | (with_reducible first | exact HB.out | apply below_alloc | apply pw_below_drewN | apply below_drew1 | refine below_set ?_ GE118.out) | exact HB.out)))); have n2_ := Aside0.mk (blk_below (g := gb118) (o := .cells #[.string ((rd_T34 l0 x9_1).f0), .string ((rd_T34 l0 x9_1).f1), .bool true, .slice A117_3 ((rd_T34 l0 x9_1).f3).length c117_3] 34 (0, 0)) (by (with_reducible repeat (first | refine blk_drewN ?_ _ | refine blk_drew ?_ | refine blk_alloc ?_ _)); refine blk_put (cs := #[.string ((rd_T34 l0 x9_1).f0), .string ((rd_T34 l0 x9_1).f1), .bool true, .slice none 0 0]) ?_ 3 _ rfl; (with_reducible repeat (first | refine blk_drewN ?_ _ | refine blk_drew ?_ | refine blk_alloc ?_ _)); refine blk_put (cs := #[.string ((rd_T34 l0 x9_1).f0), .string ((rd_T34 l0 x9_1).f1), .bool false, .slice none 0 0]) ?_ 2 _ rfl; (with_reducible repeat (first | refine blk_drewN ?_ _ | refine blk_drew ?_ | refine blk_alloc ?_ _)); refine blk_put (cs := #[.string ((rd_T34 l0 x9_1).f0), .string (⟨#[]⟩ : ByteArray), .bool false, .slice none 0 0]) ?_ 1 _ rfl; (with_reducible repeat (first | refine blk_drewN ?_ _ | refine blk_drew ?_ | refine blk_alloc ?_ _)); refine blk_put (cs := #[.string (⟨#[]⟩ : ByteArray), .string (⟨#[]⟩ : ByteArray), .bool false, .slice none 0 0]) ?_ 0 _ rfl; (with_reducible repeat (first | refine blk_drewN ?_ _ | refine blk_drew ?_ | refine blk_alloc ?_ _)); exact BK118.out) hb); have n3_ := Aside0.mk (below_step (by repeat (first | (with_reducible first | exact HB.out | apply below_alloc | apply pw_below_drewN | apply below_drew1 | refine below_set ?_ GE118.out) | exact HB.out)) hb); clear HO_3; clear BK118; clear HB; have HO_3 := n0_; have HO124 := n1_; have BK118 := n2_; have HB := n3_; clear n0_ n1_ n2_ n3_; (try clear hb); (try clear hb2); (try clear hk); (try clear hi); (try clear ho0); obtain ⟨Ao25, co25, eo25⟩ := Kd.N_slice HO124.out; subst eo25; have hcz26_0 : w24.cell? ⟨gb118, 0, none⟩ = some (.string ((rd_T34 l0 x9_1).f0)) := (blk_cell BK118.out 0).trans rfl; have hcz26_1 : w24.cell? ⟨gb118, 1, none⟩ = some (.string ((rd_T34 l0 x9_1).f1)) := (blk_cell BK118.out 1).trans rfl; have hcz26_2 : w24.cell? ⟨gb118, 2, none⟩ = some (.bool true) := (blk_cell BK118.out 2).trans rfl; have hcz26_3 : w24.cell? ⟨gb118, 3, none⟩ = some (.slice A117_3 ((rd_T34 l0 x9_1).f3).length c117_3) := (blk_cell BK118.out 3).trans rfl; have hfz26_0 := blk_frozen BK118.out 0; have hfz26_1 := blk_frozen BK118.out 1; have hfz26_2 := blk_frozen BK118.out 2; have hfz26_3 := blk_frozen BK118.out 3) | ((with_reducible refine gate_builtin (b := .append) (xs := #[.tmp 27, .tmp 32]) rfl ?_); at_builtin; refine Kd.N_append k34 (w0 := w) w.heap.size rfl (.tmp 27) (.tmp 32) 23 34 (.agg #[(.string ⟨#[]⟩), (.string ⟨#[]⟩), (.bool false), (.slice none 0 0)]) 64 rfl Tryz.underlying23 info34 rfl (by decide) (by omega) u3 x3_1 (⟨(rd_T34 l0 x9_1).f0, (⟨#[]⟩ : ByteArray), true, t122⟩ : S34) [.string ((rd_T34 l0 x9_1).f0), .string (⟨#[]⟩ : ByteArray), .bool true, .slice Ao25 t122.length co25] (fun k_ => (w.heap.size ≤ k_) ∧ k_ ≠ gb118) (fun k_ => ((fun k_ => (w.heap.size ≤ k_) ∧ k_ ≠ gb118)) k_ ∧ some k_ ≠ (u3 : Value).ownBlock) rfl rfl ?aP (fun _ hk => hk) ?aF ?aO ?aB ?aS ?aL ?_; (case aP => exact (k34_mkF _ _ (⟨(rd_T34 l0 x9_1).f0, (⟨#[]⟩ : ByteArray), true, t122⟩ : S34) (Kd.N_reads' (Kd.N_mono (ok' := (fun k_ => ((fun k_ => (w.heap.size ≤ k_) ∧ k_ ≠ gb118)) k_ ∧ some k_ ≠ (u3 : Value).ownBlock)) (HO124.out) (fun k_ hk => ⟨⟨hk.1, hk.2.2⟩, hk.2.1⟩))).2.1 (Kd.N_F (Kd.N_mono (ok' := (fun k_ => ((fun k_ => (w.heap.size ≤ k_) ∧ k_ ≠ gb118)) k_ ∧ some k_ ≠ (u3 : Value).ownBlock)) (HO124.out) (fun k_ hk => ⟨⟨hk.1, hk.2.2⟩, hk.2.1⟩))))); (case aB => exact (by repeat (first | (with_reducible first | exact HB.out | apply below_alloc | apply pw_below_drewN | apply below_drew1 | refine below_set ?_ GE118.out) | exact HB.out))); (case aF => exact (fun k_ hk => ⟨(Nat.le_trans (below_size (by repeat (first | (with_reducible first | exact HB.out | apply below_alloc | apply pw_below_drewN | apply below_drew1 | refine below_set ?_ GE118.out) | exact HB.out))) hk), Kd.freshB (g := gb118) (o := .cells #[.string ((rd_T34 l0 x9_1).f0), .string ((rd_T34 l0 x9_1).f1), .bool true, .slice A117_3 ((rd_T34 l0 x9_1).f3).length c117_3] 34 (0, 0)) (by (with_reducible repeat (first | refine blk_drewN ?_ _ | refine blk_drew ?_ | refine blk_alloc ?_ _)); exact BK118.out) k_ hk⟩)); (case aO => exact (by (with_reducible repeat (first | apply Kd.N_alloc | apply Kd.N_drewN | apply Kd.N_drew)); exact Kd.N_mono HO_3.out (fun _ hk => ⟨hk.1.1, hk.1.2⟩))); (case aS => exact (below_size (by repeat (first | (with_reducible first | exact HB.out | apply below_alloc | apply pw_below_drewN | apply below_drew1 | refine below_set ?_ GE118.out) | exact HB.out)))); (case aL => have := LMc21.out; omega); intro v129 w27 ho hb hg hat; rw [← Ny128.out] at ho; have n0_ := Aside0.mk (blk_grown (g := gb118) (o := .cells #[.string ((rd_T34 l0 x9_1).f0), .string ((rd_T34 l0 x9_1).f1), .bool true, .slice A117_3 ((rd_T34 l0 x9_1).f3).length c117_3] 34 (0, 0)) (by (with_reducible repeat (first | refine blk_drewN ?_ _ | refine blk_drew ?_ | refine blk_alloc ?_ _)); exact BK118.out) hg (Kd.N_away HO_3.out (fun _ hk => hk.1.2))); have n1_ := Aside0.mk (hb); have n2_ := Aside0.mk (ho); clear BK118; clear HB; clear HO_3; clear HO124; have BK118 := n0_; have HB := n1_; have HO130 := n2_; clear n0_ n1_ n2_; clear ho hb hg hat))
                    go_roundg k1
                    case measure => have := HK1.out; omega
                    case rel => exact ⟨(y128), (wrap64 (x9_1 + 1)), (by first | rfl | (simp; done) | (simp [*]; done)), H', ⟨by have := HK1.out; omega⟩, ⟨by (with_reducible repeat (first | apply Kd.N_alloc | apply Kd.N_drewN | apply Kd.N_drew)); exact Kd.N_mono HO130.out (fun _ hk => hk.1)⟩, ⟨by repeat (first | (with_reducible first | exact HB.out | apply below_alloc | apply pw_below_drewN | apply below_drew1 | refine below_set ?_ GE118.out) | exact HB.out)⟩⟩
                  · rw [if_neg c21] at H
                    exact absurd H (by simp)
            · replace c6 := Bool.eq_false_iff.mpr c6
              subst c6
              have H1 : (if x3_1.length < 2199023255552 then (spec_Shown.l0 k1 (x3_1 ++ [(⟨(rd_T34 l0 x9_1).f0, (rd_T34 l0 x9_1).f1, false, ([] : List (S34))⟩ : S34)]) l0 (l0.length : Int) (wrap64 (x9_1 + 1))) else (none)) = some r := by rw [if_neg (show ¬ (false = true) by decide)] at H; exact H
              clear H
              have H := H1
              clear H1
              by_cases c28 : x3_1.length < 2199023255552
              · rw [if_pos c28] at H
                have LMc28 := Aside0.mk c28
                clear c28
                obtain ⟨y119, hy119⟩ : ∃ y_ : List (S34), y_ = (x3_1 ++ [(⟨(rd_T34 l0 x9_1).f0, (rd_T34 l0 x9_1).f1, false, ([] : List (S34))⟩ : S34)]) := ⟨_, rfl⟩
                replace H : (spec_Shown.l0 k1 y119 l0 (l0.length : Int) (wrap64 (x9_1 + 1))) = some r := by first | (rw [hy119]; with_reducible exact H) | (have H2_ := (Option.bind_some _ _).symm.trans H; rw [hy119]; with_reducible exact H2_) | (have H2_ := (Option.bind_some _ _).symm.trans H; with_reducible exact H2_) | with_reducible exact H | (rw [hy119]; exact H) | exact H
                have Ny119 := Aside0.mk hy119
                clear hy119
                have H' := Aside0.mk H
                clear H
                have p117 : 0 ≤ (x9_1 : Int) := of_decide_eq_true (by first | (with_reducible assumption) | assumption)
                have q117 : x9_1 < (l0.length : Int) := of_decide_eq_true (by first | (with_reducible assumption) | assumption)
                obtain ⟨ad117, A117_3, c117_3, e117, hx117_0, hx117_1, hx117_2, hx117_3, hl117_3, hi117_3⟩ := at_T34 HR0.out x9_1 p117 q117
                (try rw [← Nbq5.out] at hx117_2)
                cases e117
                replace hx117_0 := (HB.out.cell (World.block_lt_of_cell? w _ hx117_0)).trans hx117_0
                replace hx117_1 := (HB.out.cell (World.block_lt_of_cell? w _ hx117_1)).trans hx117_1
                replace hx117_2 := (HB.out.cell (World.block_lt_of_cell? w _ hx117_2)).trans hx117_2
                replace hx117_3 := (HB.out.cell (World.block_lt_of_cell? w _ hx117_3)).trans hx117_3
                have HR117_3 := Aside0.mk hi117_3
                have HC117_3 := Aside0.mk hl117_3
                clear hi117_3 hl117_3
                replace p117 := eq_true p117
                replace q117 := eq_true q117
                go_wp2_with (first | ((with_reducible refine gate_dst (N := 5) rfl ?_); refine box_event ?hg (N := 5) ?hd (cs := #[.string (⟨#[]⟩ : ByteArray), .string (⟨#[]⟩ : ByteArray), .bool false, .slice none 0 0]) (t := 34) ?hr ?_; (case hd => rfl); (case hg => rfl); (case hr => first | (go_simp; done) | (go_simp; rfl)); intro gb118 hg w29 hbox hb; have n0_ := Aside0.mk (Kd.N_below (Kd.N_elderB (by (with_reducible repeat (first | apply Kd.N_alloc | apply Kd.N_drewN | apply Kd.N_drew)); exact HO_3.out) gb118 (Nat.le_of_eq hg.symm)) hb); have n1_ := Aside0.mk (below_step (by repeat (first | (with_reducible first | exact HB.out | apply below_alloc | apply pw_below_drewN | apply below_drew1) | exact HB.out)) hb); have n2_ := Aside0.mk (hbox); have n3_ := Aside0.mk ((by rw [hg]; exact (below_size (by repeat (first | (with_reducible first | exact HB.out | apply below_alloc | apply pw_below_drewN | apply below_drew1) | exact HB.out))) : w.heap.size ≤ gb118)); have n4_ := Aside0.mk ((by rw [hg]; exact (below_size (by repeat (first | (with_reducible first | exact HB.out | apply below_alloc | apply pw_below_drewN | apply below_drew1) | exact HB.out))) : w.heap.size ≤ gb118)); clear HO_3; clear HB; have HO_3 := n0_; have HB := n1_; have BK118 := n2_; have GW118 := n3_; have GE118 := n4_; clear n0_ n1_ n2_ n3_ n4_; clear hb hbox hg; have hcz30_0 : w29.cell? ⟨gb118, 0, none⟩ = some (.string (⟨#[]⟩ : ByteArray)) := (blk_cell BK118.out 0).trans rfl; have hcz30_1 : w29.cell? ⟨gb118, 1, none⟩ = some (.string (⟨#[]⟩ : ByteArray)) := (blk_cell BK118.out 1).trans rfl; have hcz30_2 : w29.cell? ⟨gb118, 2, none⟩ = some (.bool false) := (blk_cell BK118.out 2).trans rfl; have hcz30_3 : w29.cell? ⟨gb118, 3, none⟩ = some (.slice none 0 0) := (blk_cell BK118.out 3).trans rfl; have hfz30_0 := blk_frozen BK118.out 0; have hfz30_1 := blk_frozen BK118.out 1; have hfz30_2 := blk_frozen BK118.out 2; have hfz30_3 := blk_frozen BK118.out 3) | ((with_reducible refine gate_builtin (b := .append) (xs := #[.tmp 16, .tmp 22]) rfl ?_); at_builtin; refine Kd.N_append k34 (w0 := w) w.heap.size rfl (.tmp 16) (.tmp 22) 23 34 (.agg #[(.string ⟨#[]⟩), (.string ⟨#[]⟩), (.bool false), (.slice none 0 0)]) 64 rfl Tryz.underlying23 info34 rfl (by decide) (by omega) u3 x3_1 (⟨(rd_T34 l0 x9_1).f0, (rd_T34 l0 x9_1).f1, false, ([] : List (S34))⟩ : S34) [.string ((rd_T34 l0 x9_1).f0), .string ((rd_T34 l0 x9_1).f1), .bool false, .slice none 0 0] (fun k_ => (w.heap.size ≤ k_) ∧ k_ ≠ gb118) (fun k_ => ((fun k_ => (w.heap.size ≤ k_) ∧ k_ ≠ gb118)) k_ ∧ some k_ ≠ (u3 : Value).ownBlock) rfl (by first | (go_simp; done) | (go_simp; rfl)) ?aP (fun _ hk => hk) ?aF ?aO ?aB ?aS ?aL ?_; (case aP => exact (k34_mkF _ _ (⟨(rd_T34 l0 x9_1).f0, (rd_T34 l0 x9_1).f1, false, ([] : List (S34))⟩ : S34) (Nat.le_refl _) (Kd.F_nil _ _ _))); (case aB => exact (by repeat (first | (with_reducible first | exact HB.out | apply below_alloc | apply pw_below_drewN | apply below_drew1 | refine below_set ?_ GE118.out) | exact HB.out))); (case aF => exact (fun k_ hk => ⟨(Nat.le_trans (below_size (by repeat (first | (with_reducible first | exact HB.out | apply below_alloc | apply pw_below_drewN | apply below_drew1 | refine below_set ?_ GE118.out) | exact HB.out))) hk), Kd.freshB (g := gb118) (o := .cells #[.string ((rd_T34 l0 x9_1).f0), .string ((rd_T34 l0 x9_1).f1), .bool false, .slice A117_3 ((rd_T34 l0 x9_1).f3).length c117_3] 34 (0, 0)) (by (with_reducible repeat (first | refine blk_drewN ?_ _ | refine blk_drew ?_ | refine blk_alloc ?_ _)); refine blk_put (cs := #[.string ((rd_T34 l0 x9_1).f0), .string ((rd_T34 l0 x9_1).f1), .bool false, .slice none 0 0]) ?_ 3 _ rfl; (with_reducible repeat (first | refine blk_drewN ?_ _ | refine blk_drew ?_ | refine blk_alloc ?_ _)); refine blk_put (cs := #[.string ((rd_T34 l0 x9_1).f0), .string ((rd_T34 l0 x9_1).f1), .bool false, .slice none 0 0]) ?_ 2 _ rfl; (with_reducible repeat (first | refine blk_drewN ?_ _ | refine blk_drew ?_ | refine blk_alloc ?_ _)); refine blk_put (cs := #[.string ((rd_T34 l0 x9_1).f0), .string (⟨#[]⟩ : ByteArray), .bool false, .slice none 0 0]) ?_ 1 _ rfl; (with_reducible repeat (first | refine blk_drewN ?_ _ | refine blk_drew ?_ | refine blk_alloc ?_ _)); refine blk_put (cs := #[.string (⟨#[]⟩ : ByteArray), .string (⟨#[]⟩ : ByteArray), .bool false, .slice none 0 0]) ?_ 0 _ rfl; (with_reducible repeat (first | refine blk_drewN ?_ _ | refine blk_drew ?_ | refine blk_alloc ?_ _)); exact BK118.out) k_ hk⟩)); (case aO => exact (by (with_reducible repeat (first | apply Kd.N_alloc | apply Kd.N_drewN | apply Kd.N_drew)); exact Kd.N_mono (Kd.N_far (p := ⟨gb118, 3, none⟩) (Kd.N_far (p := ⟨gb118, 2, none⟩) (Kd.N_far (p := ⟨gb118, 1, none⟩) (Kd.N_far (p := ⟨gb118, 0, none⟩) (Kd.N_mono HO_3.out (fun k_ hk => (⟨hk, hk.2⟩ : _ ∧ k_ ≠ gb118))) (fun _ hk => hk.2) (.string ((rd_T34 l0 x9_1).f0))) (fun _ hk => hk.2) (.string ((rd_T34 l0 x9_1).f1))) (fun _ hk => hk.2) (.bool false)) (fun _ hk => hk.2) (.slice A117_3 ((rd_T34 l0 x9_1).f3).length c117_3)) (fun _ hk => ⟨hk.1.1, hk.1.2⟩))); (case aS => exact (below_size (by repeat (first | (with_reducible first | exact HB.out | apply below_alloc | apply pw_below_drewN | apply below_drew1 | refine below_set ?_ GE118.out) | exact HB.out)))); (case aL => have := LMc28.out; omega); intro v120 w31 ho hb hg hat; rw [← Ny119.out] at ho; have n0_ := Aside0.mk (blk_grown (g := gb118) (o := .cells #[.string ((rd_T34 l0 x9_1).f0), .string ((rd_T34 l0 x9_1).f1), .bool false, .slice A117_3 ((rd_T34 l0 x9_1).f3).length c117_3] 34 (0, 0)) (by (with_reducible repeat (first | refine blk_drewN ?_ _ | refine blk_drew ?_ | refine blk_alloc ?_ _)); refine blk_put (cs := #[.string ((rd_T34 l0 x9_1).f0), .string ((rd_T34 l0 x9_1).f1), .bool false, .slice none 0 0]) ?_ 3 _ rfl; (with_reducible repeat (first | refine blk_drewN ?_ _ | refine blk_drew ?_ | refine blk_alloc ?_ _)); refine blk_put (cs := #[.string ((rd_T34 l0 x9_1).f0), .string ((rd_T34 l0 x9_1).f1), .bool false, .slice none 0 0]) ?_ 2 _ rfl; (with_reducible repeat (first | refine blk_drewN ?_ _ | refine blk_drew ?_ | refine blk_alloc ?_ _)); refine blk_put (cs := #[.string ((rd_T34 l0 x9_1).f0), .string (⟨#[]⟩ : ByteArray), .bool false, .slice none 0 0]) ?_ 1 _ rfl; (with_reducible repeat (first | refine blk_drewN ?_ _ | refine blk_drew ?_ | refine blk_alloc ?_ _)); refine blk_put (cs := #[.string (⟨#[]⟩ : ByteArray), .string (⟨#[]⟩ : ByteArray), .bool false, .slice none 0 0]) ?_ 0 _ rfl; (with_reducible repeat (first | refine blk_drewN ?_ _ | refine blk_drew ?_ | refine blk_alloc ?_ _)); exact BK118.out) hg (Kd.N_away HO_3.out (fun _ hk => hk.2))); have n1_ := Aside0.mk (hb); have n2_ := Aside0.mk (ho); clear BK118; clear HB; clear HO_3; have BK118 := n0_; have HB := n1_; have HO121 := n2_; clear n0_ n1_ n2_; clear ho hb hg hat))
                go_roundg k1
                case measure => have := HK1.out; omega
                case rel => exact ⟨(y119), (wrap64 (x9_1 + 1)), (by first | rfl | (simp; done) | (simp [*]; done)), H', ⟨by have := HK1.out; omega⟩, ⟨by (with_reducible repeat (first | apply Kd.N_alloc | apply Kd.N_drewN | apply Kd.N_drew)); exact Kd.N_mono HO121.out (fun _ hk => hk.1)⟩, ⟨by repeat (first | (with_reducible first | exact HB.out | apply below_alloc | apply pw_below_drewN | apply below_drew1 | refine below_set ?_ GE118.out) | exact HB.out)⟩⟩
              · rw [if_neg c28] at H
                exact absurd H (by simp)
          · rw [if_neg c4] at H
            exact absurd H (by simp)
        · rw [if_neg c3] at H
          exact absurd H (by simp)
      · rw [if_neg c2] at H
        have c2b0 : decide (x9_1 < (l0.length : Int)) = false := decide_eq_false c2
        clear c2
        obtain rfl := Option.some.inj H
        go_wp2
        go_ret
        exact ⟨_, by first | rfl | (simp [errW_none, errW_some] <;> rfl) | (simp [*, errW_none, errW_some] <;> rfl), by (with_reducible repeat (first | apply Kd.N_alloc | apply Kd.N_drewN | apply Kd.N_drew)); exact HO_3.out, by repeat (first | (with_reducible first | exact HB.out | apply below_alloc | apply pw_below_drewN | apply below_drew1) | exact HB.out)⟩


end Go.Proofs.YtcllhgajdcemiaaGreatDoor.PFnJSONBack

namespace Go.Proofs.YtcllhgajdcemiaaGreatDoor.PFnJSONBack
open Go.RowKit Go.Proofs.YtcllhgajdcemiaaGreatDoorW.PrintWords Go.Proofs.YtcllhgajdcemiaaGreatDoorW.PrintLast Go.Proofs.YtcllhgajdcemiaaGreatDoorW.PrintMore
attribute [local go_sem] max2_int min2_int max_two min_two max_three min_three max_four min_four
set_option linter.unusedVariables false
set_option linter.unusedSimpArgs false

/-! ### spec_Plain: function 17 -/
mutual
def spec_Plain.l0 : Nat → List (S34) → Int → Int → Option (Bool)
  | 0, _, _, _ => none
  | k + 1, x5, x6, x7 => if x7 < x6 then (if 0 ≤ x7 then (if x7 < (x5.length : Int) then (if (rd_T34 x5 x7).f2 = true then ((spec_Plain.f k ((rd_T34 x5 x7).f3)).bind fun t133 => (if t133 = true then (if (((rd_T34 x5 x7).f3).length : Int) > 0 then ((spec_Shown.f k ((rd_T34 x5 x7).f3)).bind fun t134 => (if (t134.length : Int) = 0 then (some false) else (spec_Plain.l0 k x5 x6 (wrap64 (x7 + 1))))) else (spec_Plain.l0 k x5 x6 (wrap64 (x7 + 1)))) else (some false))) else (spec_Plain.l0 k x5 x6 (wrap64 (x7 + 1)))) else (none)) else (none)) else (some true)
def spec_Plain.f : Nat → List (S34) → Option (Bool)
  | 0, _ => none
  | k + 1, l0 => spec_Plain.l0 k l0 (l0.length : Int) 0
end
theorem spec_Plain.mono_l : ∀ k, (∀ y0, LeO (spec_Plain.f k y0) (spec_Plain.f (k + 1) y0)) ∧ (∀ y0 y1 y2, LeO (spec_Plain.l0 k y0 y1 y2) (spec_Plain.l0 (k + 1) y0 y1 y2))
  | 0 => ⟨fun _ r h => by simp [spec_Plain.f] at h, fun _ _ _ r h => by simp [spec_Plain.l0] at h⟩
  | k + 1 => by
    obtain ⟨ih0, ih1⟩ := spec_Plain.mono_l k
    refine ⟨?_, ?_⟩
    · intro y0
      unfold spec_Plain.f
      repeat' first
      | (with_reducible exact ih0 _)
      | (with_reducible exact ih1 _ _ _)
      | (with_reducible exact spec_Shown.mono _ _)
      | (with_reducible exact LeO.refl _)
      | (with_reducible exact LeO.none _)
      | (with_reducible refine LeO.ite ?_ ?_)
      | (with_reducible refine LeO.bind ?_ (fun _ => ?_))
      | exact ih0 _
      | exact ih1 _ _ _
      | exact spec_Shown.mono _ _
      | exact LeO.none _
      | refine LeO.ite ?_ ?_
      | refine LeO.bind ?_ (fun _ => ?_)
    · intro y0 y1 y2
      unfold spec_Plain.l0
      repeat' first
      | (with_reducible exact ih0 _)
      | (with_reducible exact ih1 _ _ _)
      | (with_reducible exact spec_Shown.mono _ _)
      | (with_reducible exact LeO.refl _)
      | (with_reducible exact LeO.none _)
      | (with_reducible refine LeO.ite ?_ ?_)
      | (with_reducible refine LeO.bind ?_ (fun _ => ?_))
      | exact ih0 _
      | exact ih1 _ _ _
      | exact spec_Shown.mono _ _
      | exact LeO.none _
      | refine LeO.ite ?_ ?_
      | refine LeO.bind ?_ (fun _ => ?_)
theorem spec_Plain.mono : ∀ a0 k, LeO (spec_Plain.f k a0) (spec_Plain.f (k + 1) a0) := by
  intro a0 k
  obtain ⟨ih0, ih1⟩ := spec_Plain.mono_l k
  exact ih0 a0
set_option maxHeartbeats 8000000 in
set_option maxRecDepth 100000 in
theorem spec_Plain.calls (k : Nat) : ∀ (A0 : Option Addr) (c0 : Nat) (l0 : List (S34)) (r : Bool) (w : World) (hr0 : Kd.C k34 w A0 l0.length l0) (hc0 : l0.length ≤ c0) (h : spec_Plain.f k l0 = some r),
    Calls Tryz.prog 17 #[.slice A0 l0.length c0] w fun e w' => e = .returned (.bool r) ∧ Below w.heap.size w w' := by
  induction k using Nat.strongRecOn with
  | _ k ih =>
  intro A0 c0 l0 r w hr0 hc0 h
  cases k with
  | zero => exact absurd h (by simp [spec_Plain.f])
  | succ k =>
  simp only [spec_Plain.f] at h
  have hu34 := Tryz.underlying34
  have HR0 := Aside0.mk hr0
  have HC0 := Aside0.mk hc0
  clear hr0 hc0
  have HB := Aside0.mk (Below.refl w.heap.size w)
  have H : (spec_Plain.l0 k l0 (l0.length : Int) 0) = some r := h
  clear h
  have H' := Aside0.mk H
  clear H
  go_enter Tryz.func17, Tryz.ntmps17
  go_wp2
  go_loopg [7] k (fun kq v7 w' => ∃ (x7_1 : Int), v7 = .int .i64 x7_1 ∧ Aside0 (spec_Plain.l0 kq l0 (l0.length : Int) x7_1 = some r) ∧ Aside0 (kq ≤ k) ∧ Aside0 (Below w.heap.size w w'))
  case atStart => exact ⟨(0), (by first | rfl | (simp; done) | (simp [*]; done)), H', ⟨Nat.le_refl _⟩, ⟨by repeat (first | (with_reducible first | exact HB.out | apply below_alloc | apply pw_below_drewN | apply below_drew1) | exact HB.out)⟩⟩
  case round =>
    clear H'
    try clear c1
    obtain ⟨x7_1, rfl, HA, HK1, HB⟩ := hrel
    cases gk with
    | zero => exact absurd HA.out (by simp [spec_Plain.l0])
    | succ k1 =>
      have H := HA.out
      clear HA
      simp only [spec_Plain.l0] at H
      by_cases c2 : x7_1 < (l0.length : Int)
      · rw [if_pos c2] at H
        have c2b0 : decide (x7_1 < (l0.length : Int)) = true := decide_eq_true c2
        clear c2
        by_cases c3 : 0 ≤ x7_1
        · rw [if_pos c3] at H
          have c3b0 : decide (0 ≤ x7_1) = true := decide_eq_true c3
          clear c3
          by_cases c4 : x7_1 < (l0.length : Int)
          · rw [if_pos c4] at H
            have c4b0 : decide (x7_1 < (l0.length : Int)) = true := decide_eq_true c4
            clear c4
            obtain ⟨bq5, hbq5⟩ : ∃ b_ : Bool, b_ = ((rd_T34 l0 x7_1).f2) := ⟨_, rfl⟩
            replace H : (if bq5 = true then ((spec_Plain.f k1 ((rd_T34 l0 x7_1).f3)).bind fun t133 => (if t133 = true then (if (((rd_T34 l0 x7_1).f3).length : Int) > 0 then ((spec_Shown.f k1 ((rd_T34 l0 x7_1).f3)).bind fun t134 => (if (t134.length : Int) = 0 then (some false) else (spec_Plain.l0 k1 l0 (l0.length : Int) (wrap64 (x7_1 + 1))))) else (spec_Plain.l0 k1 l0 (l0.length : Int) (wrap64 (x7_1 + 1)))) else (some false))) else (spec_Plain.l0 k1 l0 (l0.length : Int) (wrap64 (x7_1 + 1)))) = some r := by rw [← hbq5] at H; exact H
            have Nbq5 := Aside0.mk hbq5
            clear hbq5
            by_cases c6 : bq5 = true
            · subst c6
              have H1 : ((spec_Plain.f k1 ((rd_T34 l0 x7_1).f3)).bind fun t133 => (if t133 = true then (if (((rd_T34 l0 x7_1).f3).length : Int) > 0 then ((spec_Shown.f k1 ((rd_T34 l0 x7_1).f3)).bind fun t134 => (if (t134.length : Int) = 0 then (some false) else (spec_Plain.l0 k1 l0 (l0.length : Int) (wrap64 (x7_1 + 1))))) else (spec_Plain.l0 k1 l0 (l0.length : Int) (wrap64 (x7_1 + 1)))) else (some false))) = some r := by rw [if_pos rfl] at H; exact H
              clear H
              have H := H1
              clear H1
              replace H := Option.bind_eq_some_iff.mp H
              obtain ⟨t133, A70, H⟩ := H
              replace H : (if t133 = true then (if (((rd_T34 l0 x7_1).f3).length : Int) > 0 then ((spec_Shown.f k1 ((rd_T34 l0 x7_1).f3)).bind fun t134 => (if (t134.length : Int) = 0 then (some false) else (spec_Plain.l0 k1 l0 (l0.length : Int) (wrap64 (x7_1 + 1))))) else (spec_Plain.l0 k1 l0 (l0.length : Int) (wrap64 (x7_1 + 1)))) else (some false)) = some r := H
              have A7 := Aside0.mk A70
              clear A70
              by_cases c8 : t133 = true
              · subst c8
                have H1 : (if (((rd_T34 l0 x7_1).f3).length : Int) > 0 then ((spec_Shown.f k1 ((rd_T34 l0 x7_1).f3)).bind fun t134 => (if (t134.length : Int) = 0 then (some false) else (spec_Plain.l0 k1 l0 (l0.length : Int) (wrap64 (x7_1 + 1))))) else (spec_Plain.l0 k1 l0 (l0.length : Int) (wrap64 (x7_1 + 1)))) = some r := by rw [if_pos rfl] at H; exact H
                clear H
                have H := H1
                clear H1
                by_cases c9 : (((rd_T34 l0 x7_1).f3).length : Int) > 0
                · rw [if_pos c9] at H
                  have c9b0 : decide (0 < (((rd_T34 l0 x7_1).f3).length : Int)) = true := decide_eq_true c9
                  have c9b1 : decide (0 < ((rd_T34 l0 x7_1).f3).length) = true := decide_eq_true (by omega)
                  clear c9
                  replace H := Option.bind_eq_some_iff.mp H
                  obtain ⟨t134, A100, H⟩ := H
                  replace H : (if (t134.length : Int) = 0 then (some false) else (spec_Plain.l0 k1 l0 (l0.length : Int) (wrap64 (x7_1 + 1)))) = some r := H
                  have A10 := Aside0.mk A100
                  clear A100
                  by_cases c11 : (t134.length : Int) = 0
                  · rw [if_pos c11] at H
                    have c11b0 : ((t134.length : Int) == 0) = true := beq_iff_eq.mpr c11
                    have c11b1 : ((t134.length : Int) != 0) = false := bne_eq_false_iff_eq.mpr c11
                    clear c11
                    obtain rfl := Option.some.inj H
                    have p131 : 0 ≤ (x7_1 : Int) := of_decide_eq_true (by first | (with_reducible assumption) | assumption)
                    have q131 : x7_1 < (l0.length : Int) := of_decide_eq_true (by first | (with_reducible assumption) | assumption)
                    obtain ⟨ad131, A131_3, c131_3, e131, hx131_0, hx131_1, hx131_2, hx131_3, hl131_3, hi131_3⟩ := at_T34 HR0.out x7_1 p131 q131
                    (try rw [← Nbq5.out] at hx131_2)
                    cases e131
                    replace hx131_0 := (HB.out.cell (World.block_lt_of_cell? w _ hx131_0)).trans hx131_0
                    replace hx131_1 := (HB.out.cell (World.block_lt_of_cell? w _ hx131_1)).trans hx131_1
                    replace hx131_2 := (HB.out.cell (World.block_lt_of_cell? w _ hx131_2)).trans hx131_2
                    replace hx131_3 := (HB.out.cell (World.block_lt_of_cell? w _ hx131_3)).trans hx131_3
                    have HR131_3 := Aside0.mk hi131_3
                    have HC131_3 := Aside0.mk hl131_3
                    clear hi131_3 hl131_3
                    replace p131 := eq_true p131
                    replace q131 := eq_true q131
                    go_wp2_with (first | ((with_reducible refine gate_dst (N := 4) rfl ?_); (try (refine gate_guard (by rfl) ?_; dsimp only)); refine box_event ?hg (N := 4) ?hd (cs := #[.string (⟨#[]⟩ : ByteArray), .string (⟨#[]⟩ : ByteArray), .bool false, .slice none 0 0]) (t := 34) ?hr ?_; (case hd => rfl); (case hg => rfl); (case hr => first | (go_simp; done) | (go_simp; rfl)); intro gb132 hg w12 hbox hb; have n0_ := Aside0.mk (below_step (by repeat (first | (with_reducible first | exact HB.out | apply below_alloc | apply pw_below_drewN | apply below_drew1) | exact HB.out)) hb); have n1_ := Aside0.mk (hbox); have n2_ := Aside0.mk ((by rw [hg]; exact (below_size (by repeat (first | (with_reducible first | exact HB.out | apply below_alloc | apply pw_below_drewN | apply below_drew1) | exact HB.out))) : w.heap.size ≤ gb132)); have n3_ := Aside0.mk ((by rw [hg]; exact (below_size (by repeat (first | (with_reducible first | exact HB.out | apply below_alloc | apply pw_below_drewN | apply below_drew1) | exact HB.out))) : w.heap.size ≤ gb132)); clear HB; have HB := n0_; have BK132 := n1_; have GW132 := n2_; have GE132 := n3_; clear n0_ n1_ n2_ n3_; clear hb hbox hg; have hcz13_0 : w12.cell? ⟨gb132, 0, none⟩ = some (.string (⟨#[]⟩ : ByteArray)) := (blk_cell BK132.out 0).trans rfl; have hcz13_1 : w12.cell? ⟨gb132, 1, none⟩ = some (.string (⟨#[]⟩ : ByteArray)) := (blk_cell BK132.out 1).trans rfl; have hcz13_2 : w12.cell? ⟨gb132, 2, none⟩ = some (.bool false) := (blk_cell BK132.out 2).trans rfl; have hcz13_3 : w12.cell? ⟨gb132, 3, none⟩ = some (.slice none 0 0) := (blk_cell BK132.out 3).trans rfl; have hfz13_0 := blk_frozen BK132.out 0; have hfz13_1 := blk_frozen BK132.out 1; have hfz13_2 := blk_frozen BK132.out 2; have hfz13_3 := blk_frozen BK132.out 3) | (go_at_call 17; (with_reducible refine (ih k1 (by have := HK1.out; omega) _ _ ((rd_T34 l0 x7_1).f3) true _ ?side1 ?side2 A7.out).mono ?_); (case side1 => exact Kd.C_below HR131_3.out (by repeat (first | (with_reducible first | exact HB.out | apply below_alloc | apply pw_below_drewN | apply below_drew1 | refine below_set ?_ GE132.out) | exact HB.out))); (case side2 => exact HC131_3.out); rintro e w14 ⟨rfl, hb⟩; have n0_ := Aside0.mk (blk_below (g := gb132) (o := .cells #[.string ((rd_T34 l0 x7_1).f0), .string ((rd_T34 l0 x7_1).f1), .bool true, .slice A131_3 ((rd_T34 l0 x7_1).f3).length c131_3] 34 (0, 0)) (by (with_reducible repeat (first | refine blk_drewN ?_ _ | refine blk_drew ?_ | refine blk_alloc ?_ _)); refine blk_put (cs := #[.string ((rd_T34 l0 x7_1).f0), .string ((rd_T34 l0 x7_1).f1), .bool true, .slice none 0 0]) ?_ 3 _ rfl; (with_reducible repeat (first | refine blk_drewN ?_ _ | refine blk_drew ?_ | refine blk_alloc ?_ _)); refine blk_put (cs := #[.string ((rd_T34 l0 x7_1).f0), .string ((rd_T34 l0 x7_1).f1), .bool false, .slice none 0 0]) ?_ 2 _ rfl; (with_reducible repeat (first | refine blk_drewN ?_ _ | refine blk_drew ?_ | refine blk_alloc ?_ _)); refine blk_put (cs := #[.string ((rd_T34 l0 x7_1).f0), .string (⟨#[]⟩ : ByteArray), .bool false, .slice none 0 0]) ?_ 1 _ rfl; (with_reducible repeat (first | refine blk_drewN ?_ _ | refine blk_drew ?_ | refine blk_alloc ?_ _)); refine blk_put (cs := #[.string (⟨#[]⟩ : ByteArray), .string (⟨#[]⟩ : ByteArray), .bool false, .slice none 0 0]) ?_ 0 _ rfl; (with_reducible repeat (first | refine blk_drewN ?_ _ | refine blk_drew ?_ | refine blk_alloc ?_ _)); exact BK132.out) hb); have n1_ := Aside0.mk (below_step (by repeat (first | (with_reducible first | exact HB.out | apply below_alloc | apply pw_below_drewN | apply below_drew1 | refine below_set ?_ GE132.out) | exact HB.out)) hb); clear BK132; clear HB; have BK132 := n0_; have HB := n1_; clear n0_ n1_; (try clear hb); (try clear hb2); (try clear hk); (try clear hi); have hcz15_0 : w14.cell? ⟨gb132, 0, none⟩ = some (.string ((rd_T34 l0 x7_1).f0)) := (blk_cell BK132.out 0).trans rfl; have hcz15_1 : w14.cell? ⟨gb132, 1, none⟩ = some (.string ((rd_T34 l0 x7_1).f1)) := (blk_cell BK132.out 1).trans rfl; have hcz15_2 : w14.cell? ⟨gb132, 2, none⟩ = some (.bool true) := (blk_cell BK132.out 2).trans rfl; have hcz15_3 : w14.cell? ⟨gb132, 3, none⟩ = some (.slice A131_3 ((rd_T34 l0 x7_1).f3).length c131_3) := (blk_cell BK132.out 3).trans rfl; have hfz15_0 := blk_frozen BK132.out 0; have hfz15_1 := blk_frozen BK132.out 1; have hfz15_2 := blk_frozen BK132.out 2; have hfz15_3 := blk_frozen BK132.out 3) | (go_at_call 23; (with_reducible refine (spec_Shown.calls k1 _ _ ((rd_T34 l0 x7_1).f3) t134 _ ?side1 ?side2 A10.out).mono ?_); (case side1 => repeat (first | exact (Kd.C_below HR131_3.out HB.out) | (with_reducible refine Kd.C_alloc ?_ _) | (with_reducible refine Kd.C_drewN ?_ _) | (with_reducible refine Kd.C_drew ?_))); (case side2 => exact HC131_3.out); rintro e w16 ⟨v135, rfl, ho0, hb⟩; have n0_ := Aside0.mk (Kd.N_lower (Kd.N_mono (ok' := fun k_ => k_ ≠ gb132) ho0 (fun k_ hk_ => (Kd.freshB (g := gb132) (o := .cells #[.string ((rd_T34 l0 x7_1).f0), .string ((rd_T34 l0 x7_1).f1), .bool true, .slice A131_3 ((rd_T34 l0 x7_1).f3).length c131_3] 34 (0, 0)) (by (with_reducible repeat (first | refine blk_drewN ?_ _ | refine blk_drew ?_ | refine blk_alloc ?_ _)); exact BK132.out) k_ hk_))) (below_size (by repeat (first | (with_reducible first | exact HB.out | apply below_alloc | apply pw_below_drewN | apply below_drew1 | refine below_set ?_ GE132.out) | exact HB.out)))); have n1_ := Aside0.mk (blk_below (g := gb132) (o := .cells #[.string ((rd_T34 l0 x7_1).f0), .string ((rd_T34 l0 x7_1).f1), .bool true, .slice A131_3 ((rd_T34 l0 x7_1).f3).length c131_3] 34 (0, 0)) (by (with_reducible repeat (first | refine blk_drewN ?_ _ | refine blk_drew ?_ | refine blk_alloc ?_ _)); exact BK132.out) hb); have n2_ := Aside0.mk (below_step (by repeat (first | (with_reducible first | exact HB.out | apply below_alloc | apply pw_below_drewN | apply below_drew1 | refine below_set ?_ GE132.out) | exact HB.out)) hb); clear BK132; clear HB; have HO136 := n0_; have BK132 := n1_; have HB := n2_; clear n0_ n1_ n2_; (try clear hb); (try clear hb2); (try clear hk); (try clear hi); (try clear ho0); obtain ⟨Ao17, co17, eo17⟩ := Kd.N_slice HO136.out; subst eo17))
                    go_ret
                    exact ⟨by first | rfl | (simp [errW_none, errW_some] <;> rfl) | (simp [*, errW_none, errW_some] <;> rfl), by repeat (first | (with_reducible first | exact HB.out | apply below_alloc | apply pw_below_drewN | apply below_drew1 | refine below_set ?_ GE132.out) | exact HB.out)⟩
                  · rw [if_neg c11] at H
                    have c11b0 : ((t134.length : Int) == 0) = false := beq_eq_false_iff_ne.mpr c11
                    have c11b1 : ((t134.length : Int) != 0) = true := bne_iff_ne.mpr c11
                    have c11b2 : ¬ (t134 = []) := fun h_ => c11 (by rw [h_]; rfl)
                    have H' := Aside0.mk H
                    clear H
                    have p131 : 0 ≤ (x7_1 : Int) := of_decide_eq_true (by first | (with_reducible assumption) | assumption)
                    have q131 : x7_1 < (l0.length : Int) := of_decide_eq_true (by first | (with_reducible assumption) | assumption)
                    obtain ⟨ad131, A131_3, c131_3, e131, hx131_0, hx131_1, hx131_2, hx131_3, hl131_3, hi131_3⟩ := at_T34 HR0.out x7_1 p131 q131
                    (try rw [← Nbq5.out] at hx131_2)
                    cases e131
                    replace hx131_0 := (HB.out.cell (World.block_lt_of_cell? w _ hx131_0)).trans hx131_0
                    replace hx131_1 := (HB.out.cell (World.block_lt_of_cell? w _ hx131_1)).trans hx131_1
                    replace hx131_2 := (HB.out.cell (World.block_lt_of_cell? w _ hx131_2)).trans hx131_2
                    replace hx131_3 := (HB.out.cell (World.block_lt_of_cell? w _ hx131_3)).trans hx131_3
                    have HR131_3 := Aside0.mk hi131_3
                    have HC131_3 := Aside0.mk hl131_3
                    clear hi131_3 hl131_3
                    replace p131 := eq_true p131
                    replace q131 := eq_true q131
                    go_wp2_with (first | ((with_reducible refine gate_dst (N := 4) rfl ?_); (try (refine gate_guard (by rfl) ?_; dsimp only)); refine box_event ?hg (N := 4) ?hd (cs := #[.string (⟨#[]⟩ : ByteArray), .string (⟨#[]⟩ : ByteArray), .bool false, .slice none 0 0]) (t := 34) ?hr ?_; (case hd => rfl); (case hg => rfl); (case hr => first | (go_simp; done) | (go_simp; rfl)); intro gb132 hg w18 hbox hb; have n0_ := Aside0.mk (below_step (by repeat (first | (with_reducible first | exact HB.out | apply below_alloc | apply pw_below_drewN | apply below_drew1) | exact HB.out)) hb); have n1_ := Aside0.mk (hbox); have n2_ := Aside0.mk ((by rw [hg]; exact (below_size (by repeat (first | (with_reducible first | exact HB.out | apply below_alloc | apply pw_below_drewN | apply below_drew1) | exact HB.out))) : w.heap.size ≤ gb132)); have n3_ := Aside0.mk ((by rw [hg]; exact (below_size (by repeat (first | (with_reducible first | exact HB.out | apply below_alloc | apply pw_below_drewN | apply below_drew1) | exact HB.out))) : w.heap.size ≤ gb132)); clear HB; have HB := n0_; have BK132 := n1_; have GW132 := n2_; have GE132 := n3_; clear n0_ n1_ n2_ n3_; clear hb hbox hg; have hcz19_0 : w18.cell? ⟨gb132, 0, none⟩ = some (.string (⟨#[]⟩ : ByteArray)) := (blk_cell BK132.out 0).trans rfl; have hcz19_1 : w18.cell? ⟨gb132, 1, none⟩ = some (.string (⟨#[]⟩ : ByteArray)) := (blk_cell BK132.out 1).trans rfl; have hcz19_2 : w18.cell? ⟨gb132, 2, none⟩ = some (.bool false) := (blk_cell BK132.out 2).trans rfl; have hcz19_3 : w18.cell? ⟨gb132, 3, none⟩ = some (.slice none 0 0) := (blk_cell BK132.out 3).trans rfl; have hfz19_0 := blk_frozen BK132.out 0; have hfz19_1 := blk_frozen BK132.out 1; have hfz19_2 := blk_frozen BK132.out 2; have hfz19_3 := blk_frozen BK132.out 3) | (go_at_call 17; (with_reducible refine (ih k1 (by have := HK1.out; omega) _ _ ((rd_T34 l0 x7_1).f3) true _ ?side1 ?side2 A7.out).mono ?_); (case side1 => exact Kd.C_below HR131_3.out (by repeat (first | (with_reducible first | exact HB.out | apply below_alloc | apply pw_below_drewN | apply below_drew1 | refine below_set ?_ GE132.out) | exact HB.out))); (case side2 => exact HC131_3.out); rintro e w20 ⟨rfl, hb⟩; have n0_ := Aside0.mk (blk_below (g := gb132) (o := .cells #[.string ((rd_T34 l0 x7_1).f0), .string ((rd_T34 l0 x7_1).f1), .bool true, .slice A131_3 ((rd_T34 l0 x7_1).f3).length c131_3] 34 (0, 0)) (by (with_reducible repeat (first | refine blk_drewN ?_ _ | refine blk_drew ?_ | refine blk_alloc ?_ _)); refine blk_put (cs := #[.string ((rd_T34 l0 x7_1).f0), .string ((rd_T34 l0 x7_1).f1), .bool true, .slice none 0 0]) ?_ 3 _ rfl; (with_reducible repeat (first | refine blk_drewN ?_ _ | refine blk_drew ?_ | refine blk_alloc ?_ _)); refine blk_put (cs := #[.string ((rd_T34 l0 x7_1).f0), .string ((rd_T34 l0 x7_1).f1), .bool false, .slice none 0 0]) ?_ 2 _ rfl; (with_reducible repeat (first | refine blk_drewN ?_ _ | refine blk_drew ?_ | refine blk_alloc ?_ _)); refine blk_put (cs := #[.string ((rd_T34 l0 x7_1).f0), .string (⟨#[]⟩ : ByteArray), .bool false, .slice none 0 0]) ?_ 1 _ rfl; (with_reducible repeat (first | refine blk_drewN ?_ _ | refine blk_drew ?_ | refine blk_alloc ?_ _)); refine blk_put (cs := #[.string (⟨#[]⟩ : ByteArray), .string (⟨#[]⟩ : ByteArray), .bool false, .slice none 0 0]) ?_ 0 _ rfl; (with_reducible repeat (first | refine blk_drewN ?_ _ | refine blk_drew ?_ | refine blk_alloc ?_ _)); exact BK132.out) hb); have n1_ := Aside0.mk (below_step (by repeat (first | (with_reducible first | exact HB.out | apply below_alloc | apply pw_below_drewN | apply below_drew1 | refine below_set ?_ GE132.out) | exact HB.out)) hb); clear BK132; clear HB; have BK132 := n0_; have HB := n1_; clear n0_ n1_; (try clear hb); (try clear hb2); (try clear hk); (try clear hi); have hcz21_0 : w20.cell? ⟨gb132, 0, none⟩ = some (.string ((rd_T34 l0 x7_1).f0)) := (blk_cell BK132.out 0).trans rfl; have hcz21_1 : w20.cell? ⟨gb132, 1, none⟩ = some (.string ((rd_T34 l0 x7_1).f1)) := (blk_cell BK132.out 1).trans rfl; have hcz21_2 : w20.cell? ⟨gb132, 2, none⟩ = some (.bool true) := (blk_cell BK132.out 2).trans rfl; have hcz21_3 : w20.cell? ⟨gb132, 3, none⟩ = some (.slice A131_3 ((rd_T34 l0 x7_1).f3).length c131_3) := (blk_cell BK132.out 3).trans rfl; have hfz21_0 := blk_frozen BK132.out 0; have hfz21_1 := blk_frozen BK132.out 1; have hfz21_2 := blk_frozen BK132.out 2; have hfz21_3 := blk_frozen BK132.out 3) | (go_at_call 23; (with_reducible refine (spec_Shown.calls k1 _ _ ((rd_T34 l0 x7_1).f3) t134 _ ?side1 ?side2 A10.out).mono ?_); (case side1 => repeat (first | exact (Kd.C_below HR131_3.out HB.out) | (with_reducible refine Kd.C_alloc ?_ _) | (with_reducible refine Kd.C_drewN ?_ _) | (with_reducible refine Kd.C_drew ?_))); (case side2 => exact HC131_3.out); rintro e w22 ⟨v135, rfl, ho0, hb⟩; have n0_ := Aside0.mk (Kd.N_lower (Kd.N_mono (ok' := fun k_ => k_ ≠ gb132) ho0 (fun k_ hk_ => (Kd.freshB (g := gb132) (o := .cells #[.string ((rd_T34 l0 x7_1).f0), .string ((rd_T34 l0 x7_1).f1), .bool true, .slice A131_3 ((rd_T34 l0 x7_1).f3).length c131_3] 34 (0, 0)) (by (with_reducible repeat (first | refine blk_drewN ?_ _ | refine blk_drew ?_ | refine blk_alloc ?_ _)); exact BK132.out) k_ hk_))) (below_size (by repeat (first | (with_reducible first | exact HB.out | apply below_alloc | apply pw_below_drewN | apply below_drew1 | refine below_set ?_ GE132.out) | exact HB.out)))); have n1_ := Aside0.mk (blk_below (g := gb132) (o := .cells #[.string ((rd_T34 l0 x7_1).f0), .string ((rd_T34 l0 x7_1).f1), .bool true, .slice A131_3 ((rd_T34 l0 x7_1).f3).length c131_3] 34 (0, 0)) (by (with_reducible repeat (first | refine blk_drewN ?_ _ | refine blk_drew ?_ | refine blk_alloc ?_ _)); exact BK132.out) hb); have n2_ := Aside0.mk (below_step (by repeat (first | (with_reducible first | exact HB.out | apply below_alloc | apply pw_below_drewN | apply below_drew1 | refine below_set ?_ GE132.out) | exact HB.out)) hb); clear BK132; clear HB; have HO136 := n0_; have BK132 := n1_; have HB := n2_; clear n0_ n1_ n2_; (try clear hb); (try clear hb2); (try clear hk); (try clear hi); (try clear ho0); obtain ⟨Ao23, co23, eo23⟩ := Kd.N_slice HO136.out; subst eo23))
                    go_roundg k1
                    case measure => have := HK1.out; omega
                    case rel => exact ⟨(wrap64 (x7_1 + 1)), (by first | rfl | (simp; done) | (simp [*]; done)), H', ⟨by have := HK1.out; omega⟩, ⟨by repeat (first | (with_reducible first | exact HB.out | apply below_alloc | apply pw_below_drewN | apply below_drew1 | refine below_set ?_ GE132.out) | exact HB.out)⟩⟩
                · rw [if_neg c9] at H
                  have c9b0 : decide (0 < (((rd_T34 l0 x7_1).f3).length : Int)) = false := decide_eq_false c9
                  have c9b1 : decide (0 < ((rd_T34 l0 x7_1).f3).length) = false := decide_eq_false (by omega)
                  clear c9
                  have H' := Aside0.mk H
                  clear H
                  have p131 : 0 ≤ (x7_1 : Int) := of_decide_eq_true (by first | (with_reducible assumption) | assumption)
                  have q131 : x7_1 < (l0.length : Int) := of_decide_eq_true (by first | (with_reducible assumption) | assumption)
                  obtain ⟨ad131, A131_3, c131_3, e131, hx131_0, hx131_1, hx131_2, hx131_3, hl131_3, hi131_3⟩ := at_T34 HR0.out x7_1 p131 q131
                  (try rw [← Nbq5.out] at hx131_2)
                  cases e131
                  replace hx131_0 := (HB.out.cell (World.block_lt_of_cell? w _ hx131_0)).trans hx131_0
                  replace hx131_1 := (HB.out.cell (World.block_lt_of_cell? w _ hx131_1)).trans hx131_1
                  replace hx131_2 := (HB.out.cell (World.block_lt_of_cell? w _ hx131_2)).trans hx131_2
                  replace hx131_3 := (HB.out.cell (World.block_lt_of_cell? w _ hx131_3)).trans hx131_3
                  have HR131_3 := Aside0.mk hi131_3
                  have HC131_3 := Aside0.mk hl131_3
                  clear hi131_3 hl131_3
                  replace p131 := eq_true p131
                  replace q131 := eq_true q131
                  go_wp2_with (first | ((with_reducible refine gate_dst (N := 4) rfl ?_); (try (refine gate_guard (by rfl) ?_; dsimp only)); refine box_event ?hg (N := 4) ?hd (cs := #[.string (⟨#[]⟩ : ByteArray), .string (⟨#[]⟩ : ByteArray), .bool false, .slice none 0 0]) (t := 34) ?hr ?_; (case hd => rfl); (case hg => rfl); (case hr => first | (go_simp; done) | (go_simp; rfl)); intro gb132 hg w24 hbox hb; have n0_ := Aside0.mk (below_step (by repeat (first | (with_reducible first | exact HB.out | apply below_alloc | apply pw_below_drewN | apply below_drew1) | exact HB.out)) hb); have n1_ := Aside0.mk (hbox); have n2_ := Aside0.mk ((by rw [hg]; exact (below_size (by repeat (first | (with_reducible first | exact HB.out | apply below_alloc | apply pw_below_drewN | apply below_drew1) | exact HB.out))) : w.heap.size ≤ gb132)); have n3_ := Aside0.mk ((by rw [hg]; exact (below_size (by repeat (first | (with_reducible first | exact HB.out | apply below_alloc | apply pw_below_drewN | apply below_drew1) | exact HB.out))) : w.heap.size ≤ gb132)); clear HB; have HB := n0_; have BK132 := n1_; have GW132 := n2_; have GE132 := n3_; clear n0_ n1_ n2_ n3_; clear hb hbox hg; have hcz25_0 : w24.cell? ⟨gb132, 0, none⟩ = some (.string (⟨#[]⟩ : ByteArray)) := (blk_cell BK132.out 0).trans rfl; have hcz25_1 : w24.cell? ⟨gb132, 1, none⟩ = some (.string (⟨#[]⟩ : ByteArray)) := (blk_cell BK132.out 1).trans rfl; have hcz25_2 : w24.cell? ⟨gb132, 2, none⟩ = some (.bool false) := (blk_cell BK132.out 2).trans rfl; have hcz25_3 : w24.cell? ⟨gb132, 3, none⟩ = some (.slice none 0 0) := (blk_cell BK132.out 3).trans rfl; have hfz25_0 := blk_frozen BK132.out 0; have hfz25_1 := blk_frozen BK132.out 1; have hfz25_2 := blk_frozen BK132.out 2; have hfz25_3 := blk_frozen BK132.out 3) | (go_at_call 17; (with_reducible refine (ih k1 (by have := HK1.out; omega) _ _ ((rd_T34 l0 x7_1).f3) true _ ?side1 ?side2 A7.out).mono ?_); (case side1 => exact Kd.C_below HR131_3.out (by repeat (first | (with_reducible first | exact HB.out | apply below_alloc | apply pw_below_drewN | apply below_drew1 | refine below_set ?_ GE132.out) | exact HB.out))); (case side2 => exact HC131_3.out); rintro e w26 ⟨rfl, hb⟩; have n0_ := Aside0.mk (blk_below (g := gb132) (o := .cells #[.string ((rd_T34 l0 x7_1).f0), .string ((rd_T34 l0 x7_1).f1), .bool true, .slice A131_3 ((rd_T34 l0 x7_1).f3).length c131_3] 34 (0, 0)) (by (with_reducible repeat (first | refine blk_drewN ?_ _ | refine blk_drew ?_ | refine blk_alloc ?_ _)); refine blk_put (cs := #[.string ((rd_T34 l0 x7_1).f0), .string ((rd_T34 l0 x7_1).f1), .bool true, .slice none 0 0]) ?_ 3 _ rfl; (with_reducible repeat (first | refine blk_drewN ?_ _ | refine blk_drew ?_ | refine blk_alloc ?_ _)); refine blk_put (cs := #[.string ((rd_T34 l0 x7_1).f0), .string ((rd_T34 l0 x7_1).f1), .bool false, .slice none 0 0]) ?_ 2 _ rfl; (with_reducible repeat (first | refine blk_drewN ?_ _ | refine blk_drew ?_ | refine blk_alloc ?_ _)); refine blk_put (cs := #[.string ((rd_T34 l0 x7_1).f0), .string (⟨#[]⟩ : ByteArray), .bool false, .slice none 0 0]) ?_ 1 _ rfl; (with_reducible repeat (first | refine blk_drewN ?_ _ | refine blk_drew ?_ | refine blk_alloc ?_ _)); refine blk_put (cs := #[.string (⟨#[]⟩ : ByteArray), .string (⟨#[]⟩ : ByteArray), .bool false, .slice none 0 0]) ?_ 0 _ rfl; (with_reducible repeat (first | refine blk_drewN ?_ _ | refine blk_drew ?_ | refine blk_alloc ?_ _)); exact BK132.out) hb); have n1_ := Aside0.mk (below_step (by repeat (first | (with_reducible first | exact HB.out | apply below_alloc | apply pw_below_drewN | apply below_drew1 | refine below_set ?_ GE132.out) | exact HB.out)) hb); clear BK132; clear HB; have BK132 := n0_; have HB := n1_; clear n0_ n1_; (try clear hb); (try clear hb2); (try clear hk); (try clear hi); have hcz27_0 : w26.cell? ⟨gb132, 0, none⟩ = some (.string ((rd_T34 l0 x7_1).f0)) := (blk_cell BK132.out 0).trans rfl; have hcz27_1 : w26.cell? ⟨gb132, 1, none⟩ = some (.string ((rd_T34 l0 x7_1).f1)) := (blk_cell BK132.out 1).trans rfl; have hcz27_2 : w26.cell? ⟨gb132, 2, none⟩ = some (.bool true) := (blk_cell BK132.out 2).trans rfl; have hcz27_3 : w26.cell? ⟨gb132, 3, none⟩ = some (.slice A131_3 ((rd_T34 l0 x7_1).f3).length c131_3) := (blk_cell BK132.out 3).trans rfl; have hfz27_0 := blk_frozen BK132.out 0; have hfz27_1 := blk_frozen BK132.out 1; have hfz27_2 := blk_frozen BK132.out 2; have hfz27_3 := blk_frozen BK132.out 3))
                  go_roundg k1
                  case measure => have := HK1.out; omega
                  case rel => exact ⟨(wrap64 (x7_1 + 1)), (by first | rfl | (simp; done) | (simp [*]; done)), H', ⟨by have := HK1.out; omega⟩, ⟨by repeat (first | (with_reducible first | exact HB.out | apply below_alloc | apply pw_below_drewN | apply below_drew1 | refine below_set ?_ GE132.out) | exact HB.out)⟩⟩
              · replace c8 := Bool.eq_false_iff.mpr c8
                subst c8
                have H1 : (some false) = some r := by rw [if_neg (show ¬ (false = true) by decide)] at H; exact H
                clear H
                have H := H1
                clear H1
                obtain rfl := Option.some.inj H
                have p131 : 0 ≤ (x7_1 : Int) := of_decide_eq_true (by first | (with_reducible assumption) | assumption)
                have q131 : x7_1 < (l0.length : Int) := of_decide_eq_true (by first | (with_reducible assumption) | assumption)
                obtain ⟨ad131, A131_3, c131_3, e131, hx131_0, hx131_1, hx131_2, hx131_3, hl131_3, hi131_3⟩ := at_T34 HR0.out x7_1 p131 q131
                (try rw [← Nbq5.out] at hx131_2)
                cases e131
                replace hx131_0 := (HB.out.cell (World.block_lt_of_cell? w _ hx131_0)).trans hx131_0
                replace hx131_1 := (HB.out.cell (World.block_lt_of_cell? w _ hx131_1)).trans hx131_1
                replace hx131_2 := (HB.out.cell (World.block_lt_of_cell? w _ hx131_2)).trans hx131_2
                replace hx131_3 := (HB.out.cell (World.block_lt_of_cell? w _ hx131_3)).trans hx131_3
                have HR131_3 := Aside0.mk hi131_3
                have HC131_3 := Aside0.mk hl131_3
                clear hi131_3 hl131_3
                replace p131 := eq_true p131
                replace q131 := eq_true q131
                go_wp2_with (first | ((with_reducible refine gate_dst (N := 4) rfl ?_); (try (refine gate_guard (by rfl) ?_; dsimp only)); refine box_event ?hg (N := 4) ?hd (cs := #[.string (⟨#[]⟩ : ByteArray), .string (⟨#[]⟩ : ByteArray), .bool false, .slice none 0 0]) (t := 34) ?hr ?_; (case hd => rfl); (case hg => rfl); (case hr => first | (go_simp; done) | (go_simp; rfl)); intro gb132 hg w28 hbox hb; have n0_ := Aside0.mk (below_step (by repeat (first | (with_reducible first | exact HB.out | apply below_alloc | apply pw_below_drewN | apply below_drew1) | exact HB.out)) hb); have n1_ := Aside0.mk (hbox); have n2_ := Aside0.mk ((by rw [hg]; exact (below_size (by repeat (first | (with_reducible first | exact HB.out | apply below_alloc | apply pw_below_drewN | apply below_drew1) | exact HB.out))) : w.heap.size ≤ gb132)); have n3_ := Aside0.mk ((by rw [hg]; exact (below_size (by repeat (first | (with_reducible first | exact HB.out | apply below_alloc | apply pw_below_drewN | apply below_drew1) | exact HB.out))) : w.heap.size ≤ gb132)); clear HB; have HB := n0_; have BK132 := n1_; have GW132 := n2_; have GE132 := n3_; clear n0_ n1_ n2_ n3_; clear hb hbox hg; have hcz29_0 : w28.cell? ⟨gb132, 0, none⟩ = some (.string (⟨#[]⟩ : ByteArray)) := (blk_cell BK132.out 0).trans rfl; have hcz29_1 : w28.cell? ⟨gb132, 1, none⟩ = some (.string (⟨#[]⟩ : ByteArray)) := (blk_cell BK132.out 1).trans rfl; have hcz29_2 : w28.cell? ⟨gb132, 2, none⟩ = some (.bool false) := (blk_cell BK132.out 2).trans rfl; have hcz29_3 : w28.cell? ⟨gb132, 3, none⟩ = some (.slice none 0 0) := (blk_cell BK132.out 3).trans rfl; have hfz29_0 := blk_frozen BK132.out 0; have hfz29_1 := blk_frozen BK132.out 1; have hfz29_2 := blk_frozen BK132.out 2; have hfz29_3 := blk_frozen BK132.out 3) | (go_at_call 17; (with_reducible refine (ih k1 (by have := HK1.out; omega) _ _ ((rd_T34 l0 x7_1).f3) false _ ?side1 ?side2 A7.out).mono ?_); (case side1 => exact Kd.C_below HR131_3.out (by repeat (first | (with_reducible first | exact HB.out | apply below_alloc | apply pw_below_drewN | apply below_drew1 | refine below_set ?_ GE132.out) | exact HB.out))); (case side2 => exact HC131_3.out); rintro e w30 ⟨rfl, hb⟩; have n0_ := Aside0.mk (blk_below (g := gb132) (o := .cells #[.string ((rd_T34 l0 x7_1).f0), .string ((rd_T34 l0 x7_1).f1), .bool true, .slice A131_3 ((rd_T34 l0 x7_1).f3).length c131_3] 34 (0, 0)) (by (with_reducible repeat (first | refine blk_drewN ?_ _ | refine blk_drew ?_ | refine blk_alloc ?_ _)); refine blk_put (cs := #[.string ((rd_T34 l0 x7_1).f0), .string ((rd_T34 l0 x7_1).f1), .bool true, .slice none 0 0]) ?_ 3 _ rfl; (with_reducible repeat (first | refine blk_drewN ?_ _ | refine blk_drew ?_ | refine blk_alloc ?_ _)); refine blk_put (cs := #[.string ((rd_T34 l0 x7_1).f0), .string ((rd_T34 l0 x7_1).f1), .bool false, .slice none 0 0]) ?_ 2 _ rfl; (with_reducible repeat (first | refine blk_drewN ?_ _ | refine blk_drew ?_ | refine blk_alloc ?_ _)); refine blk_put (cs := #[.string ((rd_T34 l0 x7_1).f0), .string (⟨#[]⟩ : ByteArray), .bool false, .slice none 0 0]) ?_ 1 _ rfl; (with_reducible repeat (first | refine blk_drewN ?_ _ | refine blk_drew ?_ | refine blk_alloc ?_ _)); refine blk_put (cs := #[.string (⟨#[]⟩ : ByteArray), .string (⟨#[]⟩ : ByteArray), .bool false, .slice none 0 0]) ?_ 0 _ rfl; (with_reducible repeat (first | refine blk_drewN ?_ _ | refine blk_drew ?_ | refine blk_alloc ?_ _)); exact BK132.out) hb); have n1_ := Aside0.mk (below_step (by repeat (first | (with_reducible first | exact HB.out | apply below_alloc | apply pw_below_drewN | apply below_drew1 | refine below_set ?_ GE132.out) | exact HB.out)) hb); clear BK132; clear HB; have BK132 := n0_; have HB := n1_; clear n0_ n1_; (try clear hb); (try clear hb2); (try clear hk); (try clear hi)))
                go_ret
                exact ⟨by first | rfl | (simp [errW_none, errW_some] <;> rfl) | (simp [*, errW_none, errW_some] <;> rfl), by repeat (first | (with_reducible first | exact HB.out | apply below_alloc | apply pw_below_drewN | apply below_drew1 | refine below_set ?_ GE132.out) | exact HB.out)⟩
            · replace c6 := Bool.eq_false_iff.mpr c6
              subst c6
              have H1 : (spec_Plain.l0 k1 l0 (l0.length : Int) (wrap64 (x7_1 + 1))) = some r := by rw [if_neg (show ¬ (false = true) by decide)] at H; exact H
              clear H
              have H := H1
              clear H1
              have H' := Aside0.mk H
              clear H
              have p131 : 0 ≤ (x7_1 : Int) := of_decide_eq_true (by first | (with_reducible assumption) | assumption)
              have q131 : x7_1 < (l0.length : Int) := of_decide_eq_true (by first | (with_reducible assumption) | assumption)
              obtain ⟨ad131, A131_3, c131_3, e131, hx131_0, hx131_1, hx131_2, hx131_3, hl131_3, hi131_3⟩ := at_T34 HR0.out x7_1 p131 q131
              (try rw [← Nbq5.out] at hx131_2)
              cases e131
              replace hx131_0 := (HB.out.cell (World.block_lt_of_cell? w _ hx131_0)).trans hx131_0
              replace hx131_1 := (HB.out.cell (World.block_lt_of_cell? w _ hx131_1)).trans hx131_1
              replace hx131_2 := (HB.out.cell (World.block_lt_of_cell? w _ hx131_2)).trans hx131_2
              replace hx131_3 := (HB.out.cell (World.block_lt_of_cell? w _ hx131_3)).trans hx131_3
              have HR131_3 := Aside0.mk hi131_3
              have HC131_3 := Aside0.mk hl131_3
              clear hi131_3 hl131_3
              replace p131 := eq_true p131
              replace q131 := eq_true q131
              go_wp2_with (first | ((with_reducible refine gate_dst (N := 4) rfl ?_); (try (refine gate_guard (by rfl) ?_; dsimp only)); refine box_event ?hg (N := 4) ?hd (cs := #[.string (⟨#[]⟩ : ByteArray), .string (⟨#[]⟩ : ByteArray), .bool false, .slice none 0 0]) (t := 34) ?hr ?_; (case hd => rfl); (case hg => rfl); (case hr => first | (go_simp; done) | (go_simp; rfl)); intro gb132 hg w31 hbox hb; have n0_ := Aside0.mk (below_step (by repeat (first | (with_reducible first | exact HB.out | apply below_alloc | apply pw_below_drewN | apply below_drew1) | exact HB.out)) hb); have n1_ := Aside0.mk (hbox); have n2_ := Aside0.mk ((by rw [hg]; exact (below_size (by repeat (first | (with_reducible first | exact HB.out | apply below_alloc | apply pw_below_drewN | apply below_drew1) | exact HB.out))) : w.heap.size ≤ gb132)); have n3_ := Aside0.mk ((by rw [hg]; exact (below_size (by repeat (first | (with_reducible first | exact HB.out | apply below_alloc | apply pw_below_drewN | apply below_drew1) | exact HB.out))) : w.heap.size ≤ gb132)); clear HB; have HB := n0_; have BK132 := n1_; have GW132 := n2_; have GE132 := n3_; clear n0_ n1_ n2_ n3_; clear hb hbox hg; have hcz32_0 : w31.cell? ⟨gb132, 0, none⟩ = some (.string (⟨#[]⟩ : ByteArray)) := (blk_cell BK132.out 0).trans rfl; have hcz32_1 : w31.cell? ⟨gb132, 1, none⟩ = some (.string (⟨#[]⟩ : ByteArray)) := (blk_cell BK132.out 1).trans rfl; have hcz32_2 : w31.cell? ⟨gb132, 2, none⟩ = some (.bool false) := (blk_cell BK132.out 2).trans rfl; have hcz32_3 : w31.cell? ⟨gb132, 3, none⟩ = some (.slice none 0 0) := (blk_cell BK132.out 3).trans rfl; have hfz32_0 := blk_frozen BK132.out 0; have hfz32_1 := blk_frozen BK132.out 1; have hfz32_2 := blk_frozen BK132.out 2; have hfz32_3 := blk_frozen BK132.out 3))
              go_roundg k1
              case measure => have := HK1.out; omega
              case rel => exact ⟨(wrap64 (x7_1 + 1)), (by first | rfl | (simp; done) | (simp [*]; done)), H', ⟨by have := HK1.out; omega⟩, ⟨by repeat (first | (with_reducible first | exact HB.out | apply below_alloc | apply pw_below_drewN | apply below_drew1 | refine below_set ?_ GE132.out) | exact HB.out)⟩⟩
          · rw [if_neg c4] at H
            exact absurd H (by simp)
        · rw [if_neg c3] at H
          exact absurd H (by simp)
      · rw [if_neg c2] at H
        have c2b0 : decide (x7_1 < (l0.length : Int)) = false := decide_eq_false c2
        clear c2
        obtain rfl := Option.some.inj H
        go_wp2
        go_ret
        exact ⟨by first | rfl | (simp [errW_none, errW_some] <;> rfl) | (simp [*, errW_none, errW_some] <;> rfl), by repeat (first | (with_reducible first | exact HB.out | apply below_alloc | apply pw_below_drewN | apply below_drew1) | exact HB.out)⟩

-- NOT PRINTED: function 6 (laws_fits)


end Go.Proofs.YtcllhgajdcemiaaGreatDoor.PFnJSONBack

namespace Go.Proofs.YtcllhgajdcemiaaGreatDoor.PFnJSONBack
open Go.RowKit Go.Proofs.YtcllhgajdcemiaaGreatDoorW.PrintWords Go.Proofs.YtcllhgajdcemiaaGreatDoorW.PrintLast Go.Proofs.YtcllhgajdcemiaaGreatDoorW.PrintMore
attribute [local go_sem] max2_int min2_int max_two min_two max_three min_three max_four min_four
set_option linter.unusedVariables false
set_option linter.unusedSimpArgs false

/-! ### impl_attrs: function 28 -/
mutual
def impl_attrs.l0 : Nat → List (S79) → List (S34) → Int → Int → Option ((List (S79)))
  | 0, _, _, _, _ => none
  | k + 1, x3, x6, x7, x8 => if x8 < x7 then (if 0 ≤ x8 then (if x8 < (x6.length : Int) then ((impl_attrs.f k ((rd_T34 x6 x8).f3)).bind fun t222 => (if x3.length < 2199023255552 then (impl_attrs.l0 k (x3 ++ [(⟨(rd_T34 x6 x8).f0, (rd_T34 x6 x8).f1, (rd_T34 x6 x8).f2, t222⟩ : S79)]) x6 x7 (wrap64 (x8 + 1))) else (none))) else (none)) else (none)) else (some x3)
def impl_attrs.f : Nat → List (S34) → Option ((List (S79)))
  | 0, _ => none
  | k + 1, l0 => impl_attrs.l0 k ([] : List (S79)) l0 (l0.length : Int) 0
end
theorem impl_attrs.mono_l : ∀ k, (∀ y0, LeO (impl_attrs.f k y0) (impl_attrs.f (k + 1) y0)) ∧ (∀ y0 y1 y2 y3, LeO (impl_attrs.l0 k y0 y1 y2 y3) (impl_attrs.l0 (k + 1) y0 y1 y2 y3))
  | 0 => ⟨fun _ r h => by simp [impl_attrs.f] at h, fun _ _ _ _ r h => by simp [impl_attrs.l0] at h⟩
  | k + 1 => by
    obtain ⟨ih0, ih1⟩ := impl_attrs.mono_l k
    refine ⟨?_, ?_⟩
    · intro y0
      unfold impl_attrs.f
      repeat' first
      | (with_reducible exact ih0 _)
      | (with_reducible exact ih1 _ _ _ _)
      | (with_reducible exact LeO.refl _)
      | (with_reducible exact LeO.none _)
      | (with_reducible refine LeO.ite ?_ ?_)
      | (with_reducible refine LeO.bind ?_ (fun _ => ?_))
      | exact ih0 _
      | exact ih1 _ _ _ _
      | exact LeO.none _
      | refine LeO.ite ?_ ?_
      | refine LeO.bind ?_ (fun _ => ?_)
    · intro y0 y1 y2 y3
      unfold impl_attrs.l0
      repeat' first
      | (with_reducible exact ih0 _)
      | (with_reducible exact ih1 _ _ _ _)
      | (with_reducible exact LeO.refl _)
      | (with_reducible exact LeO.none _)
      | (with_reducible refine LeO.ite ?_ ?_)
      | (with_reducible refine LeO.bind ?_ (fun _ => ?_))
      | exact ih0 _
      | exact ih1 _ _ _ _
      | exact LeO.none _
      | refine LeO.ite ?_ ?_
      | refine LeO.bind ?_ (fun _ => ?_)
theorem impl_attrs.mono : ∀ a0 k, LeO (impl_attrs.f k a0) (impl_attrs.f (k + 1) a0) := by
  intro a0 k
  obtain ⟨ih0, ih1⟩ := impl_attrs.mono_l k
  exact ih0 a0
def impl_attrs.T5 : Bool × List (List Nat × List Nat) := (true, [([], []), ([], []), ([1], [1]), ([], []), ([3], [3]), ([], []), ([5], [5]), ([], []), ([7], [7]), ([8], [8]), ([2, 4, 6, 9], [2, 4, 6, 9]), ([10], [10]), ([0, 11, 9], [0, 11]), ([12, 12, 0, 1, 2, 3, 4, 5, 6, 7, 8, 9, 10, 11, 12], [0, 12])])
def impl_attrs.B5 : List Nat := [0, 0, 2, 0, 8, 0, 32, 0, 128, 384, 1022, 2046, 4095, 8191]
theorem impl_attrs.tab5 : rtab .any (opsOf Tryz.f28 5) = impl_attrs.T5 := by kernel_rfl
theorem impl_attrs.bits5 : waitsOk impl_attrs.T5.2 impl_attrs.B5 = true := by kernel_rfl
set_option maxHeartbeats 8000000 in
set_option maxRecDepth 100000 in
theorem impl_attrs.calls (k : Nat) : ∀ (A0 : Option Addr) (c0 : Nat) (l0 : List (S34)) (r : List (S79)) (w : World) (hr0 : Kd.C k34 w A0 l0.length l0) (hc0 : l0.length ≤ c0) (h : impl_attrs.f k l0 = some r),
    Calls Tryz.prog 28 #[.slice A0 l0.length c0] w fun e w' => ∃ v0_ : Value, e = .returned (v0_) ∧ Kd.R k79 79 w' w.heap.size (fun _ => True) v0_ r ∧ Below w.heap.size w w' := by
  induction k using Nat.strongRecOn with
  | _ k ih =>
  intro A0 c0 l0 r w hr0 hc0 h
  cases k with
  | zero => exact absurd h (by simp [impl_attrs.f])
  | succ k =>
  simp only [impl_attrs.f] at h
  have hu34 := Tryz.underlying34
  have hu79 := Tryz.underlying79
  have HR0 := Aside0.mk hr0
  have HC0 := Aside0.mk hc0
  clear hr0 hc0
  have HB := Aside0.mk (Below.refl w.heap.size w)
  have H : (impl_attrs.l0 k ([] : List (S79)) l0 (l0.length : Int) 0) = some r := h
  clear h
  have H' := Aside0.mk H
  clear H
  go_enter Tryz.func28, Tryz.ntmps28
  go_wp2
  go_loopg [3, 8] k (fun kq v3 v8 w' => ∃ (x3_1 : List (S79)) (x8_1 : Int), v8 = .int .i64 x8_1 ∧ Aside0 (impl_attrs.l0 kq x3_1 l0 (l0.length : Int) x8_1 = some r) ∧ Aside0 (kq ≤ k) ∧ Aside0 (Kd.R k79 79 w' w.heap.size (fun _ => True) v3 x3_1) ∧ Aside0 (Below w.heap.size w w'))
  case atStart => exact ⟨(([] : List (S79))), (0), (by first | rfl | (simp; done) | (simp [*]; done)), H', ⟨Nat.le_refl _⟩, ⟨by first | exact Kd.R_nil _ _ _ _ _ | exact Kd.N_nil _ _ _ _ _ | exact Kd.V_nil _ _ _ _ _ | exact Kd.Q_nil _ _ _ _ _ | exact Kd.S_nil _ _ _ _ _⟩, ⟨by repeat (first | (with_reducible first | exact HB.out | apply below_alloc | apply pw_below_drewN | apply below_drew1) | exact HB.out)⟩⟩
  case round =>
    clear H'
    obtain ⟨x3_1, x8_1, rfl, HA, HK1, HO_3, HB⟩ := hrel
    cases gk with
    | zero => exact absurd HA.out (by simp [impl_attrs.l0])
    | succ k1 =>
      have H := HA.out
      clear HA
      simp only [impl_attrs.l0] at H
      by_cases c2 : x8_1 < (l0.length : Int)
      · rw [if_pos c2] at H
        have c2b0 : decide (x8_1 < (l0.length : Int)) = true := decide_eq_true c2
        clear c2
        by_cases c3 : 0 ≤ x8_1
        · rw [if_pos c3] at H
          have c3b0 : decide (0 ≤ x8_1) = true := decide_eq_true c3
          clear c3
          by_cases c4 : x8_1 < (l0.length : Int)
          · rw [if_pos c4] at H
            have c4b0 : decide (x8_1 < (l0.length : Int)) = true := decide_eq_true c4
            clear c4
            replace H := Option.bind_eq_some_iff.mp H
            obtain ⟨t222, A50, H⟩ := H
            replace H : (if x3_1.length < 2199023255552 then (impl_attrs.l0 k1 (x3_1 ++ [(⟨(rd_T34 l0 x8_1).f0, (rd_T34 l0 x8_1).f1, (rd_T34 l0 x8_1).f2, t222⟩ : S79)]) l0 (l0.length : Int) (wrap64 (x8_1 + 1))) else (none)) = some r := H
            have A5 := Aside0.mk A50
            clear A50
            by_cases c6 : x3_1.length < 2199023255552
            · rw [if_pos c6] at H
              have LMc6 := Aside0.mk c6
              clear c6
              obtain ⟨y225, hy225⟩ : ∃ y_ : List (S79), y_ = (x3_1 ++ [(⟨(rd_T34 l0 x8_1).f0, (rd_T34 l0 x8_1).f1, (rd_T34 l0 x8_1).f2, t222⟩ : S79)]) := ⟨_, rfl⟩
              replace H : (impl_attrs.l0 k1 y225 l0 (l0.length : Int) (wrap64 (x8_1 + 1))) = some r := by first | (rw [hy225]; with_reducible exact H) | (have H2_ := (Option.bind_some _ _).symm.trans H; rw [hy225]; with_reducible exact H2_) | (have H2_ := (Option.bind_some _ _).symm.trans H; with_reducible exact H2_) | with_reducible exact H | (rw [hy225]; exact H) | exact H
              have Ny225 := Aside0.mk hy225
              clear hy225
              have H' := Aside0.mk H
              clear H
              have p220 : 0 ≤ (x8_1 : Int) := of_decide_eq_true (by first | (with_reducible assumption) | assumption)
              have q220 : x8_1 < (l0.length : Int) := of_decide_eq_true (by first | (with_reducible assumption) | assumption)
              obtain ⟨ad220, A220_3, c220_3, e220, hx220_0, hx220_1, hx220_2, hx220_3, hl220_3, hi220_3⟩ := at_T34 HR0.out x8_1 p220 q220
              cases e220
              replace hx220_0 := (HB.out.cell (World.block_lt_of_cell? w _ hx220_0)).trans hx220_0
              replace hx220_1 := (HB.out.cell (World.block_lt_of_cell? w _ hx220_1)).trans hx220_1
              replace hx220_2 := (HB.out.cell (World.block_lt_of_cell? w _ hx220_2)).trans hx220_2
              replace hx220_3 := (HB.out.cell (World.block_lt_of_cell? w _ hx220_3)).trans hx220_3
              have HR220_3 := Aside0.mk hi220_3
              have HC220_3 := Aside0.mk hl220_3
              clear hi220_3 hl220_3
              replace p220 := eq_true p220
              replace q220 := eq_true q220
              try go_wp2_with (first | ((with_reducible refine gate_dst (N := 5) rfl ?_); refine box_event ?hg (N := 5) ?hd (cs := #[.string (⟨#[]⟩ : ByteArray), .string (⟨#[]⟩ : ByteArray), .bool false, .slice none 0 0]) (t := 34) ?hr ?_; (case hd => rfl); (case hg => rfl); (case hr => first | (go_simp; done) | (go_simp; rfl)); intro gb221 hg w7 hbox hb; have n0_ := Aside0.mk (Kd.R_below (by (with_reducible repeat (first | apply Kd.R_alloc | apply Kd.R_drewN | apply Kd.R_drew)); exact HO_3.out) hb); have n1_ := Aside0.mk (below_step (by repeat (first | (with_reducible first | exact HB.out | apply below_alloc | apply pw_below_drewN | apply below_drew1) | exact HB.out)) hb); have n2_ := Aside0.mk (hbox); have n3_ := Aside0.mk ((by rw [hg]; exact (below_size (by repeat (first | (with_reducible first | exact HB.out | apply below_alloc | apply pw_below_drewN | apply below_drew1) | exact HB.out))) : w.heap.size ≤ gb221)); have n4_ := Aside0.mk ((by rw [hg]; exact (below_size (by repeat (first | (with_reducible first | exact HB.out | apply below_alloc | apply pw_below_drewN | apply below_drew1) | exact HB.out))) : w.heap.size ≤ gb221)); clear HO_3; clear HB; have HO_3 := n0_; have HB := n1_; have BK221 := n2_; have GW221 := n3_; have GE221 := n4_; clear n0_ n1_ n2_ n3_ n4_; clear hb hbox hg; have hcz8_0 : w7.cell? ⟨gb221, 0, none⟩ = some (.string (⟨#[]⟩ : ByteArray)) := (blk_cell BK221.out 0).trans rfl; have hcz8_1 : w7.cell? ⟨gb221, 1, none⟩ = some (.string (⟨#[]⟩ : ByteArray)) := (blk_cell BK221.out 1).trans rfl; have hcz8_2 : w7.cell? ⟨gb221, 2, none⟩ = some (.bool false) := (blk_cell BK221.out 2).trans rfl; have hcz8_3 : w7.cell? ⟨gb221, 3, none⟩ = some (.slice none 0 0) := (blk_cell BK221.out 3).trans rfl; have hfz8_0 := blk_frozen BK221.out 0; have hfz8_1 := blk_frozen BK221.out 1; have hfz8_2 := blk_frozen BK221.out 2; have hfz8_3 := blk_frozen BK221.out 3))
              have n0_ : Aside0 (Kd.R k79 79 ((((w7.setCell ⟨gb221, 0, none⟩ (.string ((rd_T34 l0 x8_1).f0))).setCell ⟨gb221, 1, none⟩ (.string ((rd_T34 l0 x8_1).f1))).setCell ⟨gb221, 2, none⟩ (.bool ((rd_T34 l0 x8_1).f2))).setCell ⟨gb221, 3, none⟩ (.slice A220_3 ((rd_T34 l0 x8_1).f3).length c220_3)) w.heap.size (fun _ => True) u3 x3_1) := ⟨by (with_reducible repeat (first | apply Kd.R_alloc | apply Kd.R_drewN | apply Kd.R_drew)); exact Kd.R_mono (Kd.R_far (p := ⟨gb221, 3, none⟩) (Kd.R_far (p := ⟨gb221, 2, none⟩) (Kd.R_far (p := ⟨gb221, 1, none⟩) (Kd.R_far (p := ⟨gb221, 0, none⟩) (Kd.R_types HO_3.out BK221.out (by decide)) (fun _ hk => hk.2) (.string ((rd_T34 l0 x8_1).f0))) (fun _ hk => hk.2) (.string ((rd_T34 l0 x8_1).f1))) (fun _ hk => hk.2) (.bool ((rd_T34 l0 x8_1).f2))) (fun _ hk => hk.2) (.slice A220_3 ((rd_T34 l0 x8_1).f3).length c220_3)) (fun _ hk => trivial)⟩
              have n1_ : Aside0 (((((w7.setCell ⟨gb221, 0, none⟩ (.string ((rd_T34 l0 x8_1).f0))).setCell ⟨gb221, 1, none⟩ (.string ((rd_T34 l0 x8_1).f1))).setCell ⟨gb221, 2, none⟩ (.bool ((rd_T34 l0 x8_1).f2))).setCell ⟨gb221, 3, none⟩ (.slice A220_3 ((rd_T34 l0 x8_1).f3).length c220_3)).heap[gb221]? = some (.cells #[.string ((rd_T34 l0 x8_1).f0), .string ((rd_T34 l0 x8_1).f1), .bool ((rd_T34 l0 x8_1).f2), .slice A220_3 ((rd_T34 l0 x8_1).f3).length c220_3] 34 (0, 0))) := ⟨by (with_reducible repeat (first | refine blk_drewN ?_ _ | refine blk_drew ?_ | refine blk_alloc ?_ _)); refine blk_put (cs := #[.string ((rd_T34 l0 x8_1).f0), .string ((rd_T34 l0 x8_1).f1), .bool ((rd_T34 l0 x8_1).f2), .slice none 0 0]) ?_ 3 _ rfl; (with_reducible repeat (first | refine blk_drewN ?_ _ | refine blk_drew ?_ | refine blk_alloc ?_ _)); refine blk_put (cs := #[.string ((rd_T34 l0 x8_1).f0), .string ((rd_T34 l0 x8_1).f1), .bool false, .slice none 0 0]) ?_ 2 _ rfl; (with_reducible repeat (first | refine blk_drewN ?_ _ | refine blk_drew ?_ | refine blk_alloc ?_ _)); refine blk_put (cs := #[.string ((rd_T34 l0 x8_1).f0), .string (⟨#[]⟩ : ByteArray), .bool false, .slice none 0 0]) ?_ 1 _ rfl; (with_reducible repeat (first | refine blk_drewN ?_ _ | refine blk_drew ?_ | refine blk_alloc ?_ _)); refine blk_put (cs := #[.string (⟨#[]⟩ : ByteArray), .string (⟨#[]⟩ : ByteArray), .bool false, .slice none 0 0]) ?_ 0 _ rfl; (with_reducible repeat (first | refine blk_drewN ?_ _ | refine blk_drew ?_ | refine blk_alloc ?_ _)); exact BK221.out⟩
              have n2_ : Aside0 (Below w.heap.size w ((((w7.setCell ⟨gb221, 0, none⟩ (.string ((rd_T34 l0 x8_1).f0))).setCell ⟨gb221, 1, none⟩ (.string ((rd_T34 l0 x8_1).f1))).setCell ⟨gb221, 2, none⟩ (.bool ((rd_T34 l0 x8_1).f2))).setCell ⟨gb221, 3, none⟩ (.slice A220_3 ((rd_T34 l0 x8_1).f3).length c220_3))) := ⟨by repeat (first | (with_reducible first | exact HB.out | apply below_alloc | apply pw_below_drewN | apply below_drew1 | refine below_set ?_ GE221.out) | exact HB.out)⟩
              (try clear HO_3)
              (try clear BK221)
              (try clear HB)
              generalize ((((w7.setCell ⟨gb221, 0, none⟩ (.string ((rd_T34 l0 x8_1).f0))).setCell ⟨gb221, 1, none⟩ (.string ((rd_T34 l0 x8_1).f1))).setCell ⟨gb221, 2, none⟩ (.bool ((rd_T34 l0 x8_1).f2))).setCell ⟨gb221, 3, none⟩ (.slice A220_3 ((rd_T34 l0 x8_1).f3).length c220_3)) = w9 at n0_ n1_ n2_ ⊢
              have HO_3 := n0_
              have BK221 := n1_
              have HB := n2_
              clear n0_ n1_ n2_
              have n0_ := Aside0.mk (Kd.R_drew HO_3.out)
              have n1_ := Aside0.mk (blk_drew BK221.out)
              have n2_ := Aside0.mk (below_drew1 HB.out)
              clear HO_3
              clear BK221
              clear HB
              have HO_3 := n0_
              have BK221 := n1_
              have HB := n2_
              clear n0_ n1_ n2_
              refine start_ (n := 14) (S := fun w' => w'.cell? ⟨gb221, 0, none⟩ = some (.string ((rd_T34 l0 x8_1).f0)) ∧ w'.cell? ⟨gb221, 1, none⟩ = some (.string ((rd_T34 l0 x8_1).f1)) ∧ w'.cell? ⟨gb221, 2, none⟩ = some (.bool ((rd_T34 l0 x8_1).f2)) ∧ w'.cell? ⟨gb221, 3, none⟩ = some (.slice A220_3 ((rd_T34 l0 x8_1).f3).length c220_3)) (ds := []) #[false, false, false, false, false, false, false, false, false, false, false, false, false, false] (by kernel_rfl) rfl rfl ⟨(blk_cell BK221.out 0).trans rfl, (blk_cell BK221.out 1).trans rfl, (blk_cell BK221.out 2).trans rfl, (blk_cell BK221.out 3).trans rfl⟩ (fun hHeld => ?_); refine with_tabW impl_attrs.tab5 impl_attrs.bits5 (fun HT_ HW_ => ?_)
              generalize w9.drew = w10 at HO_3 BK221 HB hHeld ⊢
              refine pure_ (i := 0) (N := some 12) (v := ?_) (a' := ?_) #[true, false, false, false, false, false, false, false, false, false, false, false, false, false] rfl rfl (any_of HT_.out (by kernel_rfl)) (fun _ _ _ h => h) (Or.inl ⟨by rfl, ?_⟩) ?_ ?_
              rotate_left
              · intro w'
                go_simp
                with_reducible rfl
              rotate_left
              · simp only [Act.put, List.setIfInBounds_toArray, List.set_cons_zero, List.set_cons_succ, i64_w, i32_w]
                rfl
              refine pure_ (i := 1) (N := some 13) (v := ?_) (a' := ?_) #[true, true, false, false, false, false, false, false, false, false, false, false, false, false] rfl rfl (any_of HT_.out (by kernel_rfl)) (fun _ _ _ h => h) (Or.inl ⟨by rfl, ?_⟩) ?_ ?_
              rotate_left
              · intro w'
                go_simp
                with_reducible rfl
              rotate_left
              · simp only [Act.put, List.setIfInBounds_toArray, List.set_cons_zero, List.set_cons_succ, i64_w, i32_w]
                rfl
              refine pure_ (i := 3) (N := some 15) (v := ?_) (a' := ?_) #[true, true, false, true, false, false, false, false, false, false, false, false, false, false] rfl rfl (any_of HT_.out (by kernel_rfl)) (fun _ _ _ h => h) (Or.inl ⟨by rfl, ?_⟩) ?_ ?_
              rotate_left
              · intro w'
                go_simp
                with_reducible rfl
              rotate_left
              · simp only [Act.put, List.setIfInBounds_toArray, List.set_cons_zero, List.set_cons_succ, i64_w, i32_w]
                rfl
              refine pure_ (i := 5) (N := some 17) (v := ?_) (a' := ?_) #[true, true, false, true, false, true, false, false, false, false, false, false, false, false] rfl rfl (any_of HT_.out (by kernel_rfl)) (fun _ _ _ h => h) (Or.inl ⟨by rfl, ?_⟩) ?_ ?_
              rotate_left
              · intro w'
                go_simp
                with_reducible rfl
              rotate_left
              · simp only [Act.put, List.setIfInBounds_toArray, List.set_cons_zero, List.set_cons_succ, i64_w, i32_w]
                rfl
              refine pure_ (i := 7) (N := some 19) (v := ?_) (a' := ?_) #[true, true, false, true, false, true, false, true, false, false, false, false, false, false] rfl rfl (any_of HT_.out (by kernel_rfl)) (fun _ _ _ h => h) (Or.inl ⟨by rfl, ?_⟩) ?_ ?_
              rotate_left
              · intro w'
                go_simp
                with_reducible rfl
              rotate_left
              · simp only [Act.put, List.setIfInBounds_toArray, List.set_cons_zero, List.set_cons_succ, i64_w, i32_w]
                rfl
              refine take_ (i := 2) (N := some 14) (v := ?_) (a' := ?_) #[true, true, true, true, false, true, false, true, false, false, false, false, false, false] rfl rfl (take_ofW HT_.out HW_.out (by kernel_rfl)) (fun _ _ _ h => h) (Or.inl ⟨by rfl, ?_⟩) hHeld ?_ ?_
              rotate_left
              · rintro w' ⟨s0, s1, s2, s3⟩
                go_simp
                with_reducible rfl
              rotate_left
              · simp only [Act.put, List.setIfInBounds_toArray, List.set_cons_zero, List.set_cons_succ, i64_w, i32_w]
                rfl
              refine take_ (i := 4) (N := some 16) (v := ?_) (a' := ?_) #[true, true, true, true, true, true, false, true, false, false, false, false, false, false] rfl rfl (take_ofW HT_.out HW_.out (by kernel_rfl)) (fun _ _ _ h => h) (Or.inl ⟨by rfl, ?_⟩) hHeld ?_ ?_
              rotate_left
              · rintro w' ⟨s0, s1, s2, s3⟩
                go_simp
                with_reducible rfl
              rotate_left
              · simp only [Act.put, List.setIfInBounds_toArray, List.set_cons_zero, List.set_cons_succ, i64_w, i32_w]
                rfl
              refine take_ (i := 6) (N := some 18) (v := ?_) (a' := ?_) #[true, true, true, true, true, true, true, true, false, false, false, false, false, false] rfl rfl (take_ofW HT_.out HW_.out (by kernel_rfl)) (fun _ _ _ h => h) (Or.inl ⟨by rfl, ?_⟩) hHeld ?_ ?_
              rotate_left
              · rintro w' ⟨s0, s1, s2, s3⟩
                go_simp
                with_reducible rfl
              rotate_left
              · simp only [Act.put, List.setIfInBounds_toArray, List.set_cons_zero, List.set_cons_succ, i64_w, i32_w]
                rfl
              refine take_ (i := 8) (N := some 20) (v := ?_) (a' := ?_) #[true, true, true, true, true, true, true, true, true, false, false, false, false, false] rfl rfl (take_ofW HT_.out HW_.out (by kernel_rfl)) (fun _ _ _ h => h) (Or.inl ⟨by rfl, ?_⟩) hHeld ?_ ?_
              rotate_left
              · rintro w' ⟨s0, s1, s2, s3⟩
                go_simp
                with_reducible rfl
              rotate_left
              · simp only [Act.put, List.setIfInBounds_toArray, List.set_cons_zero, List.set_cons_succ, i64_w, i32_w]
                rfl
              refine one_ (i := 9) (N := some 21) #[true, true, true, true, true, true, true, true, true, true, false, false, false, false] rfl rfl (one_of HT_.out (by kernel_rfl)) (by decide) (fun K hK => ?_)
              refine goes_ Tryz.func28 (by kernel_rfl) rfl #[.slice A220_3 ((rd_T34 l0 x8_1).f3).length c220_3] (by rfl) rfl rfl (by (try simp only [List.map_toArray, List.map_cons, List.map_nil]); first | done | rfl | (simp only [List.length_drop, List.length_take]; rfl)) ?_
              with_reducible refine (ih k1 (by have := HK1.out; omega) _ _ ((rd_T34 l0 x8_1).f3) t222 _ ?side1 ?side2 A5.out).mono ?_
              (case side1 => repeat (first | exact (Kd.C_below HR220_3.out HB.out) | (with_reducible refine Kd.C_alloc ?_ _) | (with_reducible refine Kd.C_drewN ?_ _) | (with_reducible refine Kd.C_drew ?_)))
              (case side2 => exact HC220_3.out)
              rintro e w11 ⟨v223, rfl, ho0, hb⟩
              refine ⟨_, rfl, ?_⟩
              have n0_ := Aside0.mk (Kd.R_elder' (by (with_reducible repeat (first | apply Kd.R_alloc | apply Kd.R_drewN | apply Kd.R_drew)); exact HO_3.out) (Kd.R_base ho0) hb)
              have n1_ := Aside0.mk (Kd.R_lower (Kd.R_new' ho0 (Kd.R_lt (by (with_reducible repeat (first | apply Kd.R_alloc | apply Kd.R_drewN | apply Kd.R_drew)); exact HO_3.out))) (below_size (by repeat (first | (with_reducible first | exact HB.out | apply below_alloc | apply pw_below_drewN | apply below_drew1 | refine below_set ?_ GE221.out) | exact HB.out))))
              have n2_ := Aside0.mk (blk_below (g := gb221) (o := .cells #[.string ((rd_T34 l0 x8_1).f0), .string ((rd_T34 l0 x8_1).f1), .bool ((rd_T34 l0 x8_1).f2), .slice A220_3 ((rd_T34 l0 x8_1).f3).length c220_3] 34 (0, 0)) (by (with_reducible repeat (first | refine blk_drewN ?_ _ | refine blk_drew ?_ | refine blk_alloc ?_ _)); exact BK221.out) hb)
              have n3_ := Aside0.mk (below_step (by repeat (first | (with_reducible first | exact HB.out | apply below_alloc | apply pw_below_drewN | apply below_drew1 | refine below_set ?_ GE221.out) | exact HB.out)) hb)
              clear HO_3
              clear BK221
              clear HB
              have HO_3 := n0_
              have HO224 := n1_
              have BK221 := n2_
              have HB := n3_
              clear n0_ n1_ n2_ n3_
              (try clear hb)
              (try clear hb2)
              (try clear hk)
              (try clear hi)
              (try clear ho0)
              obtain ⟨Ao12, co12, eo12⟩ := Kd.R_slice HO224.out
              (first | subst eo12 | (injection eo12 with f1_ f2_ f3_; have f4_ := f1_.symm; have f5_ := f3_.symm; clear f1_ f2_ f3_; subst f4_; subst f5_))
              refine hK.out _ _ ⟨(blk_cell BK221.out 0).trans rfl, (blk_cell BK221.out 1).trans rfl, (blk_cell BK221.out 2).trans rfl, (blk_cell BK221.out 3).trans rfl⟩ (fun hHeld => ?_)
              clear hK K
              refine norm_ (a' := ?_) ?_ ?_
              rotate_left
              · show Act.put _ (some 21) _ = _
                simp only [Act.put, List.setIfInBounds_toArray, List.set_cons_zero, List.set_cons_succ, i64_w, i32_w]
                rfl
              refine pure_ (i := 10) (N := some 22) (v := ?_) (a' := ?_) #[true, true, true, true, true, true, true, true, true, true, true, false, false, false] rfl rfl (any_of HT_.out (by kernel_rfl)) (fun _ _ _ h => h) (Or.inl ⟨by rfl, ?_⟩) ?_ ?_
              rotate_left
              · intro w'
                go_simp
                with_reducible rfl
              rotate_left
              · simp only [Act.put, List.setIfInBounds_toArray, List.set_cons_zero, List.set_cons_succ, i64_w, i32_w]
                rfl
              refine one_ (i := 11) (N := some 23) #[true, true, true, true, true, true, true, true, true, true, true, true, false, false] rfl rfl (one_of HT_.out (by kernel_rfl)) (by decide) (fun K hK => ?_)
              refine value_ (w1 := ?_) (v := ?_) (by rfl) rfl ?_ ?_
              rotate_left 2
              · go_simp
                constructor
                · rfl
                · rfl
              refine hK.out _ _ ⟨(blk_cell (blk_alloc BK221.out _) 0).trans rfl, (blk_cell (blk_alloc BK221.out _) 1).trans rfl, (blk_cell (blk_alloc BK221.out _) 2).trans rfl, (blk_cell (blk_alloc BK221.out _) 3).trans rfl⟩ (fun hHeld => ?_)
              clear hK K
              refine norm_ (a' := ?_) ?_ ?_
              rotate_left
              · show Act.put _ (some 23) _ = _
                simp only [Act.put, List.setIfInBounds_toArray, List.set_cons_zero, List.set_cons_succ, i64_w, i32_w]
                rfl
              refine one_ (i := 12) (N := some 24) #[true, true, true, true, true, true, true, true, true, true, true, true, true, false] rfl rfl (one_of HT_.out (by kernel_rfl)) (by decide) (fun K hK => ?_)
              refine Kd.R_append_step k79 (w0 := w) w.heap.size (by rfl) (.tmp 12) (.tmp 23) 47 79 (.agg #[(.string ⟨#[]⟩), (.string ⟨#[]⟩), (.bool false), (.slice none 0 0)]) 64 rfl Tryz.underlying47 info79 rfl (by decide) (by omega) u3 x3_1 (⟨(rd_T34 l0 x8_1).f0, (rd_T34 l0 x8_1).f1, (rd_T34 l0 x8_1).f2, t222⟩ : S79) [.string ((rd_T34 l0 x8_1).f0), .string ((rd_T34 l0 x8_1).f1), .bool ((rd_T34 l0 x8_1).f2), .slice Ao12 t222.length co12] (fun _ => True) (fun k_ => ((fun _ => True)) k_ ∧ some k_ ≠ (u3 : Value).ownBlock) rfl rfl ?aP (fun _ hk => hk) ?aF ?aO ?aB ?aS ?aL ?_
              (case aP => exact k79_mkM _ _ _ (⟨(rd_T34 l0 x8_1).f0, (rd_T34 l0 x8_1).f1, (rd_T34 l0 x8_1).f2, t222⟩ : S79) (Kd.R_mono (HO224.out) (fun k_ hk => ⟨trivial, hk.2⟩)))
              (case aB => exact (by repeat (first | (with_reducible first | exact HB.out | apply below_alloc | apply pw_below_drewN | apply below_drew1 | refine below_set ?_ GE221.out) | exact HB.out)))
              (case aF => exact (fun _ _ => trivial))
              (case aO => exact (by (with_reducible repeat (first | apply Kd.R_alloc | apply Kd.R_drewN | apply Kd.R_drew)); exact Kd.R_mono HO_3.out (fun _ hk => trivial)))
              (case aS => exact (below_size (by repeat (first | (with_reducible first | exact HB.out | apply below_alloc | apply pw_below_drewN | apply below_drew1 | refine below_set ?_ GE221.out) | exact HB.out))))
              (case aL => have := LMc6.out; omega)
              intro v226 w13 ho hb hg hat
              rw [← Ny225.out] at ho
              have n0_ := Aside0.mk (blk_grown (g := gb221) (o := .cells #[.string ((rd_T34 l0 x8_1).f0), .string ((rd_T34 l0 x8_1).f1), .bool ((rd_T34 l0 x8_1).f2), .slice A220_3 ((rd_T34 l0 x8_1).f3).length c220_3] 34 (0, 0)) (by (with_reducible repeat (first | refine blk_drewN ?_ _ | refine blk_drew ?_ | refine blk_alloc ?_ _)); exact BK221.out) hg (Kd.R_ne HO_3.out BK221.out (by decide)))
              have n1_ := Aside0.mk (hb)
              have n2_ := Aside0.mk (ho)
              clear BK221
              clear HB
              clear HO_3
              clear HO224
              have BK221 := n0_
              have HB := n1_
              have HO227 := n2_
              clear n0_ n1_ n2_
              clear ho hb hg hat
              refine hK.out _ _ ⟨(blk_cell BK221.out 0).trans rfl, (blk_cell BK221.out 1).trans rfl, (blk_cell BK221.out 2).trans rfl, (blk_cell BK221.out 3).trans rfl⟩ (fun hHeld => ?_)
              clear hK K
              refine norm_ (a' := ?_) ?_ ?_
              rotate_left
              · show Act.put _ (some 24) _ = _
                simp only [Act.put, List.setIfInBounds_toArray, List.set_cons_zero, List.set_cons_succ, i64_w, i32_w]
                rfl
              refine pure_ (i := 13) (N := some 3) (v := ?_) (a' := ?_) #[true, true, true, true, true, true, true, true, true, true, true, true, true, true] rfl rfl (any_of HT_.out (by kernel_rfl)) (fun _ _ _ h => h) (Or.inl ⟨by rfl, ?_⟩) ?_ ?_
              rotate_left
              · intro w'
                go_simp
                with_reducible rfl
              rotate_left
              · simp only [Act.put, List.setIfInBounds_toArray, List.set_cons_zero, List.set_cons_succ, i64_w, i32_w]
                rfl
              refine done_ (done_of HT_.out (by kernel_rfl)) ?_
              try go_wp2
              go_roundg k1
              case measure => have := HK1.out; omega
              case rel => exact ⟨(y225), (wrap64 (x8_1 + 1)), (by first | rfl | (simp; done) | (simp [*]; done)), H', ⟨by have := HK1.out; omega⟩, ⟨by (with_reducible repeat (first | apply Kd.R_alloc | apply Kd.R_drewN | apply Kd.R_drew)); exact HO227.out⟩, ⟨by repeat (first | (with_reducible first | exact HB.out | apply below_alloc | apply pw_below_drewN | apply below_drew1 | refine below_set ?_ GE221.out) | exact HB.out)⟩⟩
            · rw [if_neg c6] at H
              exact absurd H (by simp)
          · rw [if_neg c4] at H
            exact absurd H (by simp)
        · rw [if_neg c3] at H
          exact absurd H (by simp)
      · rw [if_neg c2] at H
        have c2b0 : decide (x8_1 < (l0.length : Int)) = false := decide_eq_false c2
        clear c2
        obtain rfl := Option.some.inj H
        go_wp2
        go_ret
        exact ⟨_, by first | rfl | (simp [errW_none, errW_some] <;> rfl) | (simp [*, errW_none, errW_some] <;> rfl), by (with_reducible repeat (first | apply Kd.R_alloc | apply Kd.R_drewN | apply Kd.R_drew)); exact HO_3.out, by repeat (first | (with_reducible first | exact HB.out | apply below_alloc | apply pw_below_drewN | apply below_drew1) | exact HB.out)⟩


end Go.Proofs.YtcllhgajdcemiaaGreatDoor.PFnJSONBack
