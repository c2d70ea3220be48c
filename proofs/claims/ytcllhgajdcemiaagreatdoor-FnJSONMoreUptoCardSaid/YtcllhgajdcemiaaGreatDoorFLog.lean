/-
  impl_log, AS print.sh OF THE KIT WROTE IT FOR THIS SEAT (taken out of its texts by extract.py, each function by itself): the Lean function and the proof that the Go function comes to its answers. No condition beyond those in the statements.
-/
import Derived.Test.YtcllhgajdcemiaaGreatDoorWd
import Derived.Test.YtcllhgajdcemiaaGreatDoorFb
namespace Go.Proofs.YtcllhgajdcemiaaGreatDoor.PFnJSONBack
open Go.RowKit Go.Proofs.YtcllhgajdcemiaaGreatDoorW.PrintWords Go.Proofs.YtcllhgajdcemiaaGreatDoorW.PrintLast Go.Proofs.YtcllhgajdcemiaaGreatDoorW.PrintMore
attribute [local go_sem] max2_int min2_int max_two min_two max_three min_three max_four min_four
set_option linter.unusedVariables false
set_option linter.unusedSimpArgs false

/-! ### impl_log: function 20 -/
def impl_log.l0 : Nat → List (S36) → Int → Int → Int → ByteArray → List (S59) → List (S79) → Option (Int × ByteArray × (List (S59)) × (List (S79)))
  | 0, _, _, _, _, _, _, _ => none
  | k + 1, x15, x16, x17, x234000, x234001, x234002, x234003 => if x17 < x16 then (if 0 ≤ x17 then (if x17 < (x15.length : Int) then ((impl_attrs.f k ((rd_T36 x15 x17).f1)).bind fun t236 => (if x234002.length < 2932031007402 then (impl_log.l0 k x15 x16 (wrap64 (x17 + 1)) x234000 x234001 (x234002 ++ [(⟨(rd_T36 x15 x17).f0, t236, (rd_T36 x15 x17).f2⟩ : S59)]) x234003) else (none))) else (none)) else (none)) else (some (x234000, x234001, x234002, x234003))
def impl_log.f (k : Nat) (a0_0 : Int) (a0_1 : ByteArray) (l0_2 : List (S36)) (l0_3 : List (S34)) : Option (Int × ByteArray × (List (S59)) × (List (S79))) := (impl_attrs.f k l0_3).bind fun t230 => (impl_log.l0 k l0_2 (l0_2.length : Int) 0 a0_0 a0_1 ([] : List (S59)) t230)
theorem impl_log.mono_l : ∀ k, (∀ y0 y1 y2 y3 y4 y5 y6, LeO (impl_log.l0 k y0 y1 y2 y3 y4 y5 y6) (impl_log.l0 (k + 1) y0 y1 y2 y3 y4 y5 y6))
  | 0 => fun _ _ _ _ _ _ _ r h => by simp [impl_log.l0] at h
  | k + 1 => by
    have ih0 := impl_log.mono_l k
    · intro y0 y1 y2 y3 y4 y5 y6
      unfold impl_log.l0
      repeat' first
      | (with_reducible exact ih0 _ _ _ _ _ _ _)
      | (with_reducible exact impl_attrs.mono _ _)
      | (with_reducible exact LeO.refl _)
      | (with_reducible exact LeO.none _)
      | (with_reducible refine LeO.ite ?_ ?_)
      | (with_reducible refine LeO.bind ?_ (fun _ => ?_))
      | exact ih0 _ _ _ _ _ _ _
      | exact impl_attrs.mono _ _
      | exact LeO.none _
      | refine LeO.ite ?_ ?_
      | refine LeO.bind ?_ (fun _ => ?_)
theorem impl_log.mono : ∀ a0 a1 a2 a3 k, LeO (impl_log.f k a0 a1 a2 a3) (impl_log.f (k + 1) a0 a1 a2 a3) := by
  intro a0 a1 a2 a3 k
  have ih0 := impl_log.mono_l k
  unfold impl_log.f
  repeat' first
      | (with_reducible exact ih0 _ _ _ _ _ _ _)
      | (with_reducible exact impl_attrs.mono _ _)
      | (with_reducible exact LeO.refl _)
      | (with_reducible exact LeO.none _)
      | (with_reducible refine LeO.ite ?_ ?_)
      | (with_reducible refine LeO.bind ?_ (fun _ => ?_))
      | exact ih0 _ _ _ _ _ _ _
      | exact impl_attrs.mono _ _
      | exact LeO.none _
      | refine LeO.ite ?_ ?_
      | refine LeO.bind ?_ (fun _ => ?_)
def impl_log.T1 : Bool × List (List Nat × List Nat) := (true, [([], []), ([0], [0]), ([], []), ([2], [2]), ([], []), ([4], [4]), ([5], [5]), ([1, 3, 6], [1, 3, 6]), ([], []), ([8, 7, 6, 0, 1, 2, 3, 4, 5, 6, 7, 8], [7, 8])])
def impl_log.B1 : List Nat := [0, 1, 0, 4, 0, 16, 48, 127, 0, 511]
theorem impl_log.tab1 : rtab .any (opsOf Tryz.f20 1) = impl_log.T1 := by kernel_rfl
theorem impl_log.bits1 : waitsOk impl_log.T1.2 impl_log.B1 = true := by kernel_rfl
def impl_log.T5 : Bool × List (List Nat × List Nat) := (true, [([], []), ([0], [0]), ([], []), ([2], [2]), ([], []), ([4], [4]), ([5], [5]), ([], []), ([7], [7]), ([3, 6, 8], [3, 6, 8]), ([9], [9]), ([1, 10, 6], [1, 10]), ([0, 1, 2, 3, 4, 5, 6, 7, 8, 9, 10, 11], []), ([12, 11, 11, 0, 1, 2, 3, 4, 5, 6, 7, 8, 9, 10, 11], [11, 12])])
def impl_log.B5 : List Nat := [0, 1, 0, 4, 0, 16, 48, 0, 128, 508, 1020, 2047, 4095, 8191]
theorem impl_log.tab5 : rtab .any (opsOf Tryz.f20 5) = impl_log.T5 := by kernel_rfl
theorem impl_log.bits5 : waitsOk impl_log.T5.2 impl_log.B5 = true := by kernel_rfl
set_option maxHeartbeats 8000000 in
set_option maxRecDepth 100000 in
theorem impl_log.calls (k : Nat) (a0_0 : Int) (a0_1 : ByteArray) (A0_2 : Option Addr) (c0_2 : Nat) (l0_2 : List (S36)) (A0_3 : Option Addr) (c0_3 : Nat) (l0_3 : List (S34)) (r1 : Int) (r2 : ByteArray) (r3 : List (S59)) (r4 : List (S79)) (w : World) (hr0_2 : Kd.C k36 w A0_2 l0_2.length l0_2) (hc0_2 : l0_2.length ≤ c0_2) (hr0_3 : Kd.C k34 w A0_3 l0_3.length l0_3) (hc0_3 : l0_3.length ≤ c0_3) (h : impl_log.f k a0_0 a0_1 l0_2 l0_3 = some (r1, r2, r3, r4)) :
    Calls Tryz.prog 20 #[.agg #[.int .i64 a0_0, .string a0_1, .slice A0_2 l0_2.length c0_2, .slice A0_3 l0_3.length c0_3]] w fun e w' => ∃ v2_ v3_ : Value, e = .returned (.agg #[.int .i64 r1, .string r2, v2_, v3_]) ∧ Kd.R k59 59 w' w.heap.size (fun k_ => some k_ ≠ (v3_ : Value).ownBlock) v2_ r3 ∧ Kd.R k79 79 w' w.heap.size (fun _ => True) v3_ r4 ∧ Below w.heap.size w w' := by
  have hu25 := Tryz.underlying25
  have hu49 := Tryz.underlying49
  have hu36 := Tryz.underlying36
  have hu59 := Tryz.underlying59
  have HR0_2 := Aside0.mk hr0_2
  have HC0_2 := Aside0.mk hc0_2
  clear hr0_2 hc0_2
  have HR0_3 := Aside0.mk hr0_3
  have HC0_3 := Aside0.mk hc0_3
  clear hr0_3 hc0_3
  have HB := Aside0.mk (Below.refl w.heap.size w)
  have H : ((impl_attrs.f k l0_3).bind fun t230 => (impl_log.l0 k l0_2 (l0_2.length : Int) 0 a0_0 a0_1 ([] : List (S59)) t230)) = some (r1, r2, r3, r4) := h
  clear h
  replace H := Option.bind_eq_some_iff.mp H
  obtain ⟨t230, A20, H⟩ := H
  replace H : (impl_log.l0 k l0_2 (l0_2.length : Int) 0 a0_0 a0_1 ([] : List (S59)) t230) = some (r1, r2, r3, r4) := H
  have A2 := Aside0.mk A20
  clear A20
  have H' := Aside0.mk H
  clear H
  go_enter Tryz.func20, Tryz.ntmps20
  try go_wp2_with (first | ((with_reducible refine gate_dst (N := 1) rfl ?_); refine box_event ?hg (N := 1) ?hd (cs := #[.int .i64 a0_0, .string a0_1, .slice A0_2 l0_2.length c0_2, .slice A0_3 l0_3.length c0_3]) (t := 25) ?hr ?_; (case hd => rfl); (case hg => rfl); (case hr => first | (go_simp; done) | (go_simp; rfl)); intro gb228 hg w3 hbox hb; have n0_ := Aside0.mk (below_step (by repeat (first | (with_reducible first | exact HB.out | apply below_alloc | apply pw_below_drewN | apply below_drew1) | exact HB.out)) hb); have n1_ := Aside0.mk (hbox); have n2_ := Aside0.mk ((by rw [hg]; exact (below_size (by repeat (first | (with_reducible first | exact HB.out | apply below_alloc | apply pw_below_drewN | apply below_drew1) | exact HB.out))) : w.heap.size ≤ gb228)); have n3_ := Aside0.mk ((by rw [hg]; exact (below_size (by repeat (first | (with_reducible first | exact HB.out | apply below_alloc | apply pw_below_drewN | apply below_drew1) | exact HB.out))) : w.heap.size ≤ gb228)); clear HB; have HB := n0_; have BK228 := n1_; have GW228 := n2_; have GE228 := n3_; clear n0_ n1_ n2_ n3_; clear hb hbox hg) | ((with_reducible refine gate_dst (N := 2) rfl ?_); refine box_event ?hg (N := 2) ?hd (cs := #[.int .i64 0, .string (⟨#[]⟩ : ByteArray), .slice none 0 0, .slice none 0 0]) (t := 49) ?hr ?_; (case hd => rfl); (case hg => rfl); (case hr => first | (go_simp; done) | (go_simp; rfl)); intro gb229 hg w4 hbox hb; have n0_ := Aside0.mk (blk_below (g := gb228) (o := .cells #[.int .i64 a0_0, .string a0_1, .slice A0_2 l0_2.length c0_2, .slice A0_3 l0_3.length c0_3] 25 (0, 0)) (by (with_reducible repeat (first | refine blk_drewN ?_ _ | refine blk_drew ?_ | refine blk_alloc ?_ _)); exact BK228.out) hb); have n1_ := Aside0.mk (below_step (by repeat (first | (with_reducible first | exact HB.out | apply below_alloc | apply pw_below_drewN | apply below_drew1 | refine below_set ?_ GE228.out) | exact HB.out)) hb); have n2_ := Aside0.mk (hbox); have n3_ := Aside0.mk ((by rw [hg]; exact (below_size (by repeat (first | (with_reducible first | exact HB.out | apply below_alloc | apply pw_below_drewN | apply below_drew1 | refine below_set ?_ GE228.out) | exact HB.out))) : w.heap.size ≤ gb229)); have n4_ := Aside0.mk ((by rw [hg]; exact (below_size (by repeat (first | (with_reducible first | exact HB.out | apply below_alloc | apply pw_below_drewN | apply below_drew1 | refine below_set ?_ GE228.out) | exact HB.out))) : w.heap.size ≤ gb229)); have n5_ := Aside0.mk ((by rw [hg]; exact Nat.ne_of_lt (blk_lt (g := gb228) (o := .cells #[.int .i64 a0_0, .string a0_1, .slice A0_2 l0_2.length c0_2, .slice A0_3 l0_3.length c0_3] 25 (0, 0)) (by (with_reducible repeat (first | refine blk_drewN ?_ _ | refine blk_drew ?_ | refine blk_alloc ?_ _)); exact BK228.out)) : gb228 ≠ gb229)); have n6_ := Aside0.mk ((by rw [hg]; exact Nat.ne_of_gt (blk_lt (g := gb228) (o := .cells #[.int .i64 a0_0, .string a0_1, .slice A0_2 l0_2.length c0_2, .slice A0_3 l0_3.length c0_3] 25 (0, 0)) (by (with_reducible repeat (first | refine blk_drewN ?_ _ | refine blk_drew ?_ | refine blk_alloc ?_ _)); exact BK228.out)) : gb229 ≠ gb228)); clear BK228; clear HB; have BK228 := n0_; have HB := n1_; have BK229 := n2_; have GW229 := n3_; have GE229 := n4_; have NB228_229 := n5_; have NB229_228 := n6_; clear n0_ n1_ n2_ n3_ n4_ n5_ n6_; clear hb hbox hg))
  have n0_ := Aside0.mk (blk_drew BK228.out)
  have n1_ := Aside0.mk (blk_drew BK229.out)
  have n2_ := Aside0.mk (below_drew1 HB.out)
  clear BK228
  clear BK229
  clear HB
  have BK228 := n0_
  have BK229 := n1_
  have HB := n2_
  clear n0_ n1_ n2_
  refine start_ (n := 10) (S := fun w' => w'.cell? ⟨gb228, 0, none⟩ = some (.int .i64 a0_0) ∧ w'.cell? ⟨gb228, 1, none⟩ = some (.string a0_1) ∧ w'.cell? ⟨gb228, 2, none⟩ = some (.slice A0_2 l0_2.length c0_2) ∧ w'.cell? ⟨gb228, 3, none⟩ = some (.slice A0_3 l0_3.length c0_3)) (ds := []) #[false, false, false, false, false, false, false, false, false, false] (by kernel_rfl) rfl rfl ⟨(blk_cell BK228.out 0).trans rfl, (blk_cell BK228.out 1).trans rfl, (blk_cell BK228.out 2).trans rfl, (blk_cell BK228.out 3).trans rfl⟩ (fun hHeld => ?_); refine with_tabW impl_log.tab1 impl_log.bits1 (fun HT_ HW_ => ?_)
  generalize w4.drew = w5 at BK228 BK229 HB hHeld ⊢
  refine pure_ (i := 0) (N := some 6) (v := ?_) (a' := ?_) #[true, false, false, false, false, false, false, false, false, false] rfl rfl (any_of HT_.out (by kernel_rfl)) (fun _ _ _ h => h) (Or.inl ⟨by rfl, ?_⟩) ?_ ?_
  rotate_left
  · intro w'
    go_simp
    with_reducible rfl
  rotate_left
  · simp only [Act.put, List.setIfInBounds_toArray, List.set_cons_zero, List.set_cons_succ, i64_w, i32_w]
    rfl
  refine pure_ (i := 2) (N := some 8) (v := ?_) (a' := ?_) #[true, false, true, false, false, false, false, false, false, false] rfl rfl (any_of HT_.out (by kernel_rfl)) (fun _ _ _ h => h) (Or.inl ⟨by rfl, ?_⟩) ?_ ?_
  rotate_left
  · intro w'
    go_simp
    with_reducible rfl
  rotate_left
  · simp only [Act.put, List.setIfInBounds_toArray, List.set_cons_zero, List.set_cons_succ, i64_w, i32_w]
    rfl
  refine pure_ (i := 4) (N := some 10) (v := ?_) (a' := ?_) #[true, false, true, false, true, false, false, false, false, false] rfl rfl (any_of HT_.out (by kernel_rfl)) (fun _ _ _ h => h) (Or.inl ⟨by rfl, ?_⟩) ?_ ?_
  rotate_left
  · intro w'
    go_simp
    with_reducible rfl
  rotate_left
  · simp only [Act.put, List.setIfInBounds_toArray, List.set_cons_zero, List.set_cons_succ, i64_w, i32_w]
    rfl
  refine take_ (i := 1) (N := some 7) (v := ?_) (a' := ?_) #[true, true, true, false, true, false, false, false, false, false] rfl rfl (take_ofW HT_.out HW_.out (by kernel_rfl)) (fun _ _ _ h => h) (Or.inl ⟨by rfl, ?_⟩) hHeld ?_ ?_
  rotate_left
  · rintro w' ⟨s0, s1, s2, s3⟩
    go_simp
    with_reducible rfl
  rotate_left
  · simp only [Act.put, List.setIfInBounds_toArray, List.set_cons_zero, List.set_cons_succ, i64_w, i32_w]
    rfl
  refine take_ (i := 3) (N := some 9) (v := ?_) (a' := ?_) #[true, true, true, true, true, false, false, false, false, false] rfl rfl (take_ofW HT_.out HW_.out (by kernel_rfl)) (fun _ _ _ h => h) (Or.inl ⟨by rfl, ?_⟩) hHeld ?_ ?_
  rotate_left
  · rintro w' ⟨s0, s1, s2, s3⟩
    go_simp
    with_reducible rfl
  rotate_left
  · simp only [Act.put, List.setIfInBounds_toArray, List.set_cons_zero, List.set_cons_succ, i64_w, i32_w]
    rfl
  refine take_ (i := 5) (N := some 11) (v := ?_) (a' := ?_) #[true, true, true, true, true, true, false, false, false, false] rfl rfl (take_ofW HT_.out HW_.out (by kernel_rfl)) (fun _ _ _ h => h) (Or.inl ⟨by rfl, ?_⟩) hHeld ?_ ?_
  rotate_left
  · rintro w' ⟨s0, s1, s2, s3⟩
    go_simp
    with_reducible rfl
  rotate_left
  · simp only [Act.put, List.setIfInBounds_toArray, List.set_cons_zero, List.set_cons_succ, i64_w, i32_w]
    rfl
  refine join_ (σ := Value × Nat) 1 #[true, true, true, true, true, true, true, true, true, false] (fun s_ => [(12, s_.1), (3, .pointer (some ⟨s_.2, 0, none⟩)), (13, .agg #[.int .i64 a0_0, .string a0_1, .slice none 0 0, s_.1])]) (fun s_ w' => (w'.cell? ⟨gb228, 0, none⟩ = some (.int .i64 a0_0) ∧ w'.cell? ⟨gb228, 1, none⟩ = some (.string a0_1) ∧ w'.cell? ⟨gb228, 2, none⟩ = some (.slice A0_2 l0_2.length c0_2) ∧ w'.cell? ⟨gb228, 3, none⟩ = some (.slice A0_3 l0_3.length c0_3)) ∧ (Kd.R k79 79 w' w.heap.size (fun _ => True) s_.1 t230) ∧ (w'.heap[gb228]? = some (.cells #[.int .i64 a0_0, .string a0_1, .slice A0_2 l0_2.length c0_2, .slice A0_3 l0_3.length c0_3] 25 (0, 0))) ∧ (w'.heap[gb229]? = some (.cells #[.int .i64 0, .string (⟨#[]⟩ : ByteArray), .slice none 0 0, .slice none 0 0] 49 (0, 0))) ∧ (w'.heap[s_.2]? = some (.cells #[.int .i64 0, .string (⟨#[]⟩ : ByteArray), .slice none 0 0, .slice none 0 0] 49 (0, 0))) ∧ (w.heap.size ≤ s_.2) ∧ (w.heap.size ≤ s_.2) ∧ (gb228 ≠ s_.2) ∧ (s_.2 ≠ gb228) ∧ (gb229 ≠ s_.2) ∧ (s_.2 ≠ gb229) ∧ (Below w.heap.size w w')) ?_ ?_
  rotate_left
  · intro hCont
    refine two_ (i := 6) (j := 8) (Ni := some 12) (Nj := some 3) #[true, true, true, true, true, true, true, false, false, false] #[true, true, true, true, true, true, false, false, true, false] rfl rfl rfl rfl (two_of HT_.out (by kernel_rfl)) (by decide) (by decide) (fun K hK => ?_) (fun K hK => ?_)
    · skip
      refine goes_ Tryz.func28 (by kernel_rfl) rfl #[.slice A0_3 l0_3.length c0_3] (by rfl) rfl rfl (by (try simp only [List.map_toArray, List.map_cons, List.map_nil]); first | done | rfl | (simp only [List.length_drop, List.length_take]; rfl)) ?_
      with_reducible refine (impl_attrs.calls k _ _ l0_3 t230 _ ?side1 ?side2 A2.out).mono ?_
      (case side1 => repeat (first | exact (Kd.C_below HR0_3.out HB.out) | (with_reducible refine Kd.C_alloc ?_ _) | (with_reducible refine Kd.C_drewN ?_ _) | (with_reducible refine Kd.C_drew ?_)))
      (case side2 => exact HC0_3.out)
      rintro e w6 ⟨v231, rfl, ho0, hb⟩
      refine ⟨_, rfl, ?_⟩
      have n0_ := Aside0.mk (Kd.R_lower ho0 (below_size (by repeat (first | (with_reducible first | exact HB.out | apply below_alloc | apply pw_below_drewN | apply below_drew1 | refine below_set ?_ GE228.out | refine below_set ?_ GE229.out) | exact HB.out))))
      have n1_ := Aside0.mk (blk_below (g := gb228) (o := .cells #[.int .i64 a0_0, .string a0_1, .slice A0_2 l0_2.length c0_2, .slice A0_3 l0_3.length c0_3] 25 (0, 0)) (by (with_reducible repeat (first | refine blk_drewN ?_ _ | refine blk_drew ?_ | refine blk_alloc ?_ _)); exact BK228.out) hb)
      have n2_ := Aside0.mk (blk_below (g := gb229) (o := .cells #[.int .i64 0, .string (⟨#[]⟩ : ByteArray), .slice none 0 0, .slice none 0 0] 49 (0, 0)) (by (with_reducible repeat (first | refine blk_drewN ?_ _ | refine blk_drew ?_ | refine blk_alloc ?_ _)); exact BK229.out) hb)
      have n3_ := Aside0.mk (below_step (by repeat (first | (with_reducible first | exact HB.out | apply below_alloc | apply pw_below_drewN | apply below_drew1 | refine below_set ?_ GE228.out | refine below_set ?_ GE229.out) | exact HB.out)) hb)
      clear BK228
      clear BK229
      clear HB
      have HO232 := n0_
      have BK228 := n1_
      have BK229 := n2_
      have HB := n3_
      clear n0_ n1_ n2_ n3_
      (try clear hb)
      (try clear hb2)
      (try clear hk)
      (try clear hi)
      (try clear ho0)
      obtain ⟨Ao7, co7, eo7⟩ := Kd.R_slice HO232.out
      (first | subst eo7 | (injection eo7 with f1_ f2_ f3_; have f4_ := f1_.symm; have f5_ := f3_.symm; clear f1_ f2_ f3_; subst f4_; subst f5_))
      refine hK.out _ _ ⟨(blk_cell BK228.out 0).trans rfl, (blk_cell BK228.out 1).trans rfl, (blk_cell BK228.out 2).trans rfl, (blk_cell BK228.out 3).trans rfl⟩ (fun hHeld => ?_)
      clear hK K
      refine norm_ (a' := ?_) ?_ ?_
      rotate_left
      · show Act.put _ (some 12) _ = _
        simp only [Act.put, List.setIfInBounds_toArray, List.set_cons_zero, List.set_cons_succ, i64_w, i32_w]
        rfl
      refine pure_ (i := 7) (N := some 13) (v := ?_) (a' := ?_) #[true, true, true, true, true, true, true, true, false, false] rfl rfl (any_of HT_.out (by kernel_rfl)) (fun _ _ _ h => h) (Or.inl ⟨by rfl, ?_⟩) ?_ ?_
      rotate_left
      · intro w'
        go_simp
        with_reducible rfl
      rotate_left
      · simp only [Act.put, List.setIfInBounds_toArray, List.set_cons_zero, List.set_cons_succ, i64_w, i32_w]
        rfl
      refine one_ (i := 8) (N := some 3) #[true, true, true, true, true, true, true, true, true, false] rfl rfl (one_of HT_.out (by kernel_rfl)) (by decide) (fun K hK => ?_)
      refine box_step ?hg (N := 3) ?hd (cs := #[.int .i64 0, .string (⟨#[]⟩ : ByteArray), .slice none 0 0, .slice none 0 0]) (t := 49) ?hr ?_; (case hd => rfl); (case hg => rfl); (case hr => first | (go_simp; done) | (go_simp; rfl))
      intro gb233 hg w8 hbox hb
      have n0_ := Aside0.mk (Kd.R_below (by (with_reducible repeat (first | apply Kd.R_alloc | apply Kd.R_drewN | apply Kd.R_drew)); exact HO232.out) hb)
      have n1_ := Aside0.mk (blk_below (g := gb228) (o := .cells #[.int .i64 a0_0, .string a0_1, .slice A0_2 l0_2.length c0_2, .slice A0_3 l0_3.length c0_3] 25 (0, 0)) (by (with_reducible repeat (first | refine blk_drewN ?_ _ | refine blk_drew ?_ | refine blk_alloc ?_ _)); exact BK228.out) hb)
      have n2_ := Aside0.mk (blk_below (g := gb229) (o := .cells #[.int .i64 0, .string (⟨#[]⟩ : ByteArray), .slice none 0 0, .slice none 0 0] 49 (0, 0)) (by (with_reducible repeat (first | refine blk_drewN ?_ _ | refine blk_drew ?_ | refine blk_alloc ?_ _)); exact BK229.out) hb)
      have n3_ := Aside0.mk (below_step (by repeat (first | (with_reducible first | exact HB.out | apply below_alloc | apply pw_below_drewN | apply below_drew1 | refine below_set ?_ GE228.out | refine below_set ?_ GE229.out) | exact HB.out)) hb)
      have n4_ := Aside0.mk (hbox)
      have n5_ := Aside0.mk ((by rw [hg]; exact (below_size (by repeat (first | (with_reducible first | exact HB.out | apply below_alloc | apply pw_below_drewN | apply below_drew1 | refine below_set ?_ GE228.out | refine below_set ?_ GE229.out) | exact HB.out))) : w.heap.size ≤ gb233))
      have n6_ := Aside0.mk ((by rw [hg]; exact (below_size (by repeat (first | (with_reducible first | exact HB.out | apply below_alloc | apply pw_below_drewN | apply below_drew1 | refine below_set ?_ GE228.out | refine below_set ?_ GE229.out) | exact HB.out))) : w.heap.size ≤ gb233))
      have n7_ := Aside0.mk ((by rw [hg]; exact Nat.ne_of_lt (blk_lt (g := gb228) (o := .cells #[.int .i64 a0_0, .string a0_1, .slice A0_2 l0_2.length c0_2, .slice A0_3 l0_3.length c0_3] 25 (0, 0)) (by (with_reducible repeat (first | refine blk_drewN ?_ _ | refine blk_drew ?_ | refine blk_alloc ?_ _)); exact BK228.out)) : gb228 ≠ gb233))
      have n8_ := Aside0.mk ((by rw [hg]; exact Nat.ne_of_gt (blk_lt (g := gb228) (o := .cells #[.int .i64 a0_0, .string a0_1, .slice A0_2 l0_2.length c0_2, .slice A0_3 l0_3.length c0_3] 25 (0, 0)) (by (with_reducible repeat (first | refine blk_drewN ?_ _ | refine blk_drew ?_ | refine blk_alloc ?_ _)); exact BK228.out)) : gb233 ≠ gb228))
      have n9_ := Aside0.mk ((by rw [hg]; exact Nat.ne_of_lt (blk_lt (g := gb229) (o := .cells #[.int .i64 0, .string (⟨#[]⟩ : ByteArray), .slice none 0 0, .slice none 0 0] 49 (0, 0)) (by (with_reducible repeat (first | refine blk_drewN ?_ _ | refine blk_drew ?_ | refine blk_alloc ?_ _)); exact BK229.out)) : gb229 ≠ gb233))
      have n10_ := Aside0.mk ((by rw [hg]; exact Nat.ne_of_gt (blk_lt (g := gb229) (o := .cells #[.int .i64 0, .string (⟨#[]⟩ : ByteArray), .slice none 0 0, .slice none 0 0] 49 (0, 0)) (by (with_reducible repeat (first | refine blk_drewN ?_ _ | refine blk_drew ?_ | refine blk_alloc ?_ _)); exact BK229.out)) : gb233 ≠ gb229))
      clear HO232
      clear BK228
      clear BK229
      clear HB
      have HO232 := n0_
      have BK228 := n1_
      have BK229 := n2_
      have HB := n3_
      have BK233 := n4_
      have GW233 := n5_
      have GE233 := n6_
      have NB228_233 := n7_
      have NB233_228 := n8_
      have NB229_233 := n9_
      have NB233_229 := n10_
      clear n0_ n1_ n2_ n3_ n4_ n5_ n6_ n7_ n8_ n9_ n10_
      clear hb hbox hg
      refine hK.out _ _ ⟨(blk_cell BK228.out 0).trans rfl, (blk_cell BK228.out 1).trans rfl, (blk_cell BK228.out 2).trans rfl, (blk_cell BK228.out 3).trans rfl⟩ (fun hHeld => ?_)
      clear hK K
      refine norm_ (a' := ?_) ?_ ?_
      rotate_left
      · show Act.put _ (some 3) _ = _
        simp only [Act.put, List.setIfInBounds_toArray, List.set_cons_zero, List.set_cons_succ, i64_w, i32_w]
        rfl
      exact norm_ (by simp only [putAll, Act.put, List.setIfInBounds_toArray, List.set_cons_zero, List.set_cons_succ]) (hCont (.slice Ao7 t230.length co7, gb233) _ ⟨hHeld, (by (with_reducible repeat (first | apply Kd.R_alloc | apply Kd.R_drewN | apply Kd.R_drew)); exact HO232.out), (by (with_reducible repeat (first | refine blk_drewN ?_ _ | refine blk_drew ?_ | refine blk_alloc ?_ _)); exact BK228.out), (by (with_reducible repeat (first | refine blk_drewN ?_ _ | refine blk_drew ?_ | refine blk_alloc ?_ _)); exact BK229.out), (by (with_reducible repeat (first | refine blk_drewN ?_ _ | refine blk_drew ?_ | refine blk_alloc ?_ _)); exact BK233.out), GW233.out, GE233.out, NB228_233.out, NB233_228.out, NB229_233.out, NB233_229.out, (by repeat (first | (with_reducible first | exact HB.out | apply below_alloc | apply pw_below_drewN | apply below_drew1 | refine below_set ?_ GE228.out | refine below_set ?_ GE229.out | refine below_set ?_ GE233.out) | exact HB.out))⟩)
    · skip
      refine box_step ?hg (N := 3) ?hd (cs := #[.int .i64 0, .string (⟨#[]⟩ : ByteArray), .slice none 0 0, .slice none 0 0]) (t := 49) ?hr ?_; (case hd => rfl); (case hg => rfl); (case hr => first | (go_simp; done) | (go_simp; rfl))
      intro gb233 hg w6 hbox hb
      have n0_ := Aside0.mk (blk_below (g := gb228) (o := .cells #[.int .i64 a0_0, .string a0_1, .slice A0_2 l0_2.length c0_2, .slice A0_3 l0_3.length c0_3] 25 (0, 0)) (by (with_reducible repeat (first | refine blk_drewN ?_ _ | refine blk_drew ?_ | refine blk_alloc ?_ _)); exact BK228.out) hb)
      have n1_ := Aside0.mk (blk_below (g := gb229) (o := .cells #[.int .i64 0, .string (⟨#[]⟩ : ByteArray), .slice none 0 0, .slice none 0 0] 49 (0, 0)) (by (with_reducible repeat (first | refine blk_drewN ?_ _ | refine blk_drew ?_ | refine blk_alloc ?_ _)); exact BK229.out) hb)
      have n2_ := Aside0.mk (below_step (by repeat (first | (with_reducible first | exact HB.out | apply below_alloc | apply pw_below_drewN | apply below_drew1 | refine below_set ?_ GE228.out | refine below_set ?_ GE229.out) | exact HB.out)) hb)
      have n3_ := Aside0.mk (hbox)
      have n4_ := Aside0.mk ((by rw [hg]; exact (below_size (by repeat (first | (with_reducible first | exact HB.out | apply below_alloc | apply pw_below_drewN | apply below_drew1 | refine below_set ?_ GE228.out | refine below_set ?_ GE229.out) | exact HB.out))) : w.heap.size ≤ gb233))
      have n5_ := Aside0.mk ((by rw [hg]; exact (below_size (by repeat (first | (with_reducible first | exact HB.out | apply below_alloc | apply pw_below_drewN | apply below_drew1 | refine below_set ?_ GE228.out | refine below_set ?_ GE229.out) | exact HB.out))) : w.heap.size ≤ gb233))
      have n6_ := Aside0.mk ((by rw [hg]; exact Nat.ne_of_lt (blk_lt (g := gb228) (o := .cells #[.int .i64 a0_0, .string a0_1, .slice A0_2 l0_2.length c0_2, .slice A0_3 l0_3.length c0_3] 25 (0, 0)) (by (with_reducible repeat (first | refine blk_drewN ?_ _ | refine blk_drew ?_ | refine blk_alloc ?_ _)); exact BK228.out)) : gb228 ≠ gb233))
      have n7_ := Aside0.mk ((by rw [hg]; exact Nat.ne_of_gt (blk_lt (g := gb228) (o := .cells #[.int .i64 a0_0, .string a0_1, .slice A0_2 l0_2.length c0_2, .slice A0_3 l0_3.length c0_3] 25 (0, 0)) (by (with_reducible repeat (first | refine blk_drewN ?_ _ | refine blk_drew ?_ | refine blk_alloc ?_ _)); exact BK228.out)) : gb233 ≠ gb228))
      have n8_ := Aside0.mk ((by rw [hg]; exact Nat.ne_of_lt (blk_lt (g := gb229) (o := .cells #[.int .i64 0, .string (⟨#[]⟩ : ByteArray), .slice none 0 0, .slice none 0 0] 49 (0, 0)) (by (with_reducible repeat (first | refine blk_drewN ?_ _ | refine blk_drew ?_ | refine blk_alloc ?_ _)); exact BK229.out)) : gb229 ≠ gb233))
      have n9_ := Aside0.mk ((by rw [hg]; exact Nat.ne_of_gt (blk_lt (g := gb229) (o := .cells #[.int .i64 0, .string (⟨#[]⟩ : ByteArray), .slice none 0 0, .slice none 0 0] 49 (0, 0)) (by (with_reducible repeat (first | refine blk_drewN ?_ _ | refine blk_drew ?_ | refine blk_alloc ?_ _)); exact BK229.out)) : gb233 ≠ gb229))
      clear BK228
      clear BK229
      clear HB
      have BK228 := n0_
      have BK229 := n1_
      have HB := n2_
      have BK233 := n3_
      have GW233 := n4_
      have GE233 := n5_
      have NB228_233 := n6_
      have NB233_228 := n7_
      have NB229_233 := n8_
      have NB233_229 := n9_
      clear n0_ n1_ n2_ n3_ n4_ n5_ n6_ n7_ n8_ n9_
      clear hb hbox hg
      refine hK.out _ _ ⟨(blk_cell BK228.out 0).trans rfl, (blk_cell BK228.out 1).trans rfl, (blk_cell BK228.out 2).trans rfl, (blk_cell BK228.out 3).trans rfl⟩ (fun hHeld => ?_)
      clear hK K
      refine norm_ (a' := ?_) ?_ ?_
      rotate_left
      · show Act.put _ (some 3) _ = _
        simp only [Act.put, List.setIfInBounds_toArray, List.set_cons_zero, List.set_cons_succ, i64_w, i32_w]
        rfl
      refine one_ (i := 6) (N := some 12) #[true, true, true, true, true, true, true, false, true, false] rfl rfl (one_of HT_.out (by kernel_rfl)) (by decide) (fun K hK => ?_)
      refine goes_ Tryz.func28 (by kernel_rfl) rfl #[.slice A0_3 l0_3.length c0_3] (by rfl) rfl rfl (by (try simp only [List.map_toArray, List.map_cons, List.map_nil]); first | done | rfl | (simp only [List.length_drop, List.length_take]; rfl)) ?_
      with_reducible refine (impl_attrs.calls k _ _ l0_3 t230 _ ?side1 ?side2 A2.out).mono ?_
      (case side1 => repeat (first | exact (Kd.C_below HR0_3.out HB.out) | (with_reducible refine Kd.C_alloc ?_ _) | (with_reducible refine Kd.C_drewN ?_ _) | (with_reducible refine Kd.C_drew ?_)))
      (case side2 => exact HC0_3.out)
      rintro e w7 ⟨v231, rfl, ho0, hb⟩
      refine ⟨_, rfl, ?_⟩
      have n0_ := Aside0.mk (Kd.R_lower ho0 (below_size (by repeat (first | (with_reducible first | exact HB.out | apply below_alloc | apply pw_below_drewN | apply below_drew1 | refine below_set ?_ GE228.out | refine below_set ?_ GE229.out | refine below_set ?_ GE233.out) | exact HB.out))))
      have n1_ := Aside0.mk (blk_below (g := gb228) (o := .cells #[.int .i64 a0_0, .string a0_1, .slice A0_2 l0_2.length c0_2, .slice A0_3 l0_3.length c0_3] 25 (0, 0)) (by (with_reducible repeat (first | refine blk_drewN ?_ _ | refine blk_drew ?_ | refine blk_alloc ?_ _)); exact BK228.out) hb)
      have n2_ := Aside0.mk (blk_below (g := gb229) (o := .cells #[.int .i64 0, .string (⟨#[]⟩ : ByteArray), .slice none 0 0, .slice none 0 0] 49 (0, 0)) (by (with_reducible repeat (first | refine blk_drewN ?_ _ | refine blk_drew ?_ | refine blk_alloc ?_ _)); exact BK229.out) hb)
      have n3_ := Aside0.mk (blk_below (g := gb233) (o := .cells #[.int .i64 0, .string (⟨#[]⟩ : ByteArray), .slice none 0 0, .slice none 0 0] 49 (0, 0)) (by (with_reducible repeat (first | refine blk_drewN ?_ _ | refine blk_drew ?_ | refine blk_alloc ?_ _)); exact BK233.out) hb)
      have n4_ := Aside0.mk (below_step (by repeat (first | (with_reducible first | exact HB.out | apply below_alloc | apply pw_below_drewN | apply below_drew1 | refine below_set ?_ GE228.out | refine below_set ?_ GE229.out | refine below_set ?_ GE233.out) | exact HB.out)) hb)
      clear BK228
      clear BK229
      clear BK233
      clear HB
      have HO232 := n0_
      have BK228 := n1_
      have BK229 := n2_
      have BK233 := n3_
      have HB := n4_
      clear n0_ n1_ n2_ n3_ n4_
      (try clear hb)
      (try clear hb2)
      (try clear hk)
      (try clear hi)
      (try clear ho0)
      obtain ⟨Ao8, co8, eo8⟩ := Kd.R_slice HO232.out
      (first | subst eo8 | (injection eo8 with f1_ f2_ f3_; have f4_ := f1_.symm; have f5_ := f3_.symm; clear f1_ f2_ f3_; subst f4_; subst f5_))
      refine hK.out _ _ ⟨(blk_cell BK228.out 0).trans rfl, (blk_cell BK228.out 1).trans rfl, (blk_cell BK228.out 2).trans rfl, (blk_cell BK228.out 3).trans rfl⟩ (fun hHeld => ?_)
      clear hK K
      refine norm_ (a' := ?_) ?_ ?_
      rotate_left
      · show Act.put _ (some 12) _ = _
        simp only [Act.put, List.setIfInBounds_toArray, List.set_cons_zero, List.set_cons_succ, i64_w, i32_w]
        rfl
      refine pure_ (i := 7) (N := some 13) (v := ?_) (a' := ?_) #[true, true, true, true, true, true, true, true, true, false] rfl rfl (any_of HT_.out (by kernel_rfl)) (fun _ _ _ h => h) (Or.inl ⟨by rfl, ?_⟩) ?_ ?_
      rotate_left
      · intro w'
        go_simp
        with_reducible rfl
      rotate_left
      · simp only [Act.put, List.setIfInBounds_toArray, List.set_cons_zero, List.set_cons_succ, i64_w, i32_w]
        rfl
      exact norm_ (by simp only [putAll, Act.put, List.setIfInBounds_toArray, List.set_cons_zero, List.set_cons_succ]) (hCont (.slice Ao8 t230.length co8, gb233) _ ⟨hHeld, (by (with_reducible repeat (first | apply Kd.R_alloc | apply Kd.R_drewN | apply Kd.R_drew)); exact HO232.out), (by (with_reducible repeat (first | refine blk_drewN ?_ _ | refine blk_drew ?_ | refine blk_alloc ?_ _)); exact BK228.out), (by (with_reducible repeat (first | refine blk_drewN ?_ _ | refine blk_drew ?_ | refine blk_alloc ?_ _)); exact BK229.out), (by (with_reducible repeat (first | refine blk_drewN ?_ _ | refine blk_drew ?_ | refine blk_alloc ?_ _)); exact BK233.out), GW233.out, GE233.out, NB228_233.out, NB233_228.out, NB229_233.out, NB233_229.out, (by repeat (first | (with_reducible first | exact HB.out | apply below_alloc | apply pw_below_drewN | apply below_drew1 | refine below_set ?_ GE228.out | refine below_set ?_ GE229.out | refine below_set ?_ GE233.out) | exact HB.out))⟩)
  rintro ⟨v231, gb233⟩ w9 ⟨hS_, h0_, h1_, h2_, h3_, h4_, h5_, h6_, h7_, h8_, h9_, h10_⟩
  have n0_ : Aside0 (Kd.R k79 79 w9 w.heap.size (fun _ => True) v231 t230) := ⟨h0_⟩
  have n1_ : Aside0 (w9.heap[gb228]? = some (.cells #[.int .i64 a0_0, .string a0_1, .slice A0_2 l0_2.length c0_2, .slice A0_3 l0_3.length c0_3] 25 (0, 0))) := ⟨h1_⟩
  have n2_ : Aside0 (w9.heap[gb229]? = some (.cells #[.int .i64 0, .string (⟨#[]⟩ : ByteArray), .slice none 0 0, .slice none 0 0] 49 (0, 0))) := ⟨h2_⟩
  have n3_ : Aside0 (w9.heap[gb233]? = some (.cells #[.int .i64 0, .string (⟨#[]⟩ : ByteArray), .slice none 0 0, .slice none 0 0] 49 (0, 0))) := ⟨h3_⟩
  have n4_ : Aside0 (w.heap.size ≤ gb233) := ⟨h4_⟩
  have n5_ : Aside0 (w.heap.size ≤ gb233) := ⟨h5_⟩
  have n6_ : Aside0 (gb228 ≠ gb233) := ⟨h6_⟩
  have n7_ : Aside0 (gb233 ≠ gb228) := ⟨h7_⟩
  have n8_ : Aside0 (gb229 ≠ gb233) := ⟨h8_⟩
  have n9_ : Aside0 (gb233 ≠ gb229) := ⟨h9_⟩
  have n10_ : Aside0 (Below w.heap.size w w9) := ⟨h10_⟩
  clear BK228
  clear BK229
  clear HB
  clear h0_ h1_ h2_ h3_ h4_ h5_ h6_ h7_ h8_ h9_ h10_
  have HO232 := n0_
  have BK228 := n1_
  have BK229 := n2_
  have BK233 := n3_
  have GW233 := n4_
  have GE233 := n5_
  have NB228_233 := n6_
  have NB233_228 := n7_
  have NB229_233 := n8_
  have NB233_229 := n9_
  have HB := n10_
  clear n0_ n1_ n2_ n3_ n4_ n5_ n6_ n7_ n8_ n9_ n10_
  have hHeld : w9.cell? ⟨gb228, 0, none⟩ = some (.int .i64 a0_0) ∧ w9.cell? ⟨gb228, 1, none⟩ = some (.string a0_1) ∧ w9.cell? ⟨gb228, 2, none⟩ = some (.slice A0_2 l0_2.length c0_2) ∧ w9.cell? ⟨gb228, 3, none⟩ = some (.slice A0_3 l0_3.length c0_3) := hS_
  obtain ⟨Ao10, co10, eo10⟩ := Kd.R_slice HO232.out
  (first | subst eo10 | (injection eo10 with f1_ f2_ f3_; have f4_ := f1_.symm; have f5_ := f3_.symm; clear f1_ f2_ f3_; subst f4_; subst f5_))
  refine norm_ (a' := ?_) ?_ ?_
  rotate_left
  · simp only [putAll, Act.put, List.setIfInBounds_toArray, List.set_cons_zero, List.set_cons_succ]
    rfl
  refine one_ (i := 9) (N := none) #[true, true, true, true, true, true, true, true, true, true] rfl rfl (one_of HT_.out (by kernel_rfl)) (by decide) (fun K hK => ?_)
  have hs11 : w9.cell? ⟨gb233, 0, none⟩ = some (.int .i64 0) := (blk_cell BK233.out 0).trans rfl
  have hfs11 := blk_frozen BK233.out 0
  have hns11_0 := NB228_233.out
  have hns11_1 := NB229_233.out
  have hms11_0 := NB233_228.out
  have hms11_1 := NB233_229.out
  have hs12 : w9.cell? ⟨gb233, 1, none⟩ = some (.string (⟨#[]⟩ : ByteArray)) := (blk_cell BK233.out 1).trans rfl
  have hfs12 := blk_frozen BK233.out 1
  have hns12_0 := NB228_233.out
  have hns12_1 := NB229_233.out
  have hms12_0 := NB233_228.out
  have hms12_1 := NB233_229.out
  have hs13 : w9.cell? ⟨gb233, 2, none⟩ = some (.slice none 0 0) := (blk_cell BK233.out 2).trans rfl
  have hfs13 := blk_frozen BK233.out 2
  have hns13_0 := NB228_233.out
  have hns13_1 := NB229_233.out
  have hms13_0 := NB233_228.out
  have hms13_1 := NB233_229.out
  have hs14 : w9.cell? ⟨gb233, 3, none⟩ = some (.slice none 0 0) := (blk_cell BK233.out 3).trans rfl
  have hfs14 := blk_frozen BK233.out 3
  have hns14_0 := NB228_233.out
  have hns14_1 := NB229_233.out
  have hms14_0 := NB233_228.out
  have hms14_1 := NB233_229.out
  refine skip_ (w1 := ?_) (by rfl) rfl ?_ ?_
  rotate_left
  · go_simp
    rfl
  refine hK.out _ _ ⟨((cell_far (p := ⟨gb233, _, none⟩) NB228_233.out _).trans (((cell_far (p := ⟨gb233, _, none⟩) NB228_233.out _).trans (((cell_far (p := ⟨gb233, _, none⟩) NB228_233.out _).trans (((cell_far (p := ⟨gb233, _, none⟩) NB228_233.out _).trans (hHeld.1)))))))), ((cell_far (p := ⟨gb233, _, none⟩) NB228_233.out _).trans (((cell_far (p := ⟨gb233, _, none⟩) NB228_233.out _).trans (((cell_far (p := ⟨gb233, _, none⟩) NB228_233.out _).trans (((cell_far (p := ⟨gb233, _, none⟩) NB228_233.out _).trans (hHeld.2.1)))))))), ((cell_far (p := ⟨gb233, _, none⟩) NB228_233.out _).trans (((cell_far (p := ⟨gb233, _, none⟩) NB228_233.out _).trans (((cell_far (p := ⟨gb233, _, none⟩) NB228_233.out _).trans (((cell_far (p := ⟨gb233, _, none⟩) NB228_233.out _).trans (hHeld.2.2.1)))))))), ((cell_far (p := ⟨gb233, _, none⟩) NB228_233.out _).trans (((cell_far (p := ⟨gb233, _, none⟩) NB228_233.out _).trans (((cell_far (p := ⟨gb233, _, none⟩) NB228_233.out _).trans (((cell_far (p := ⟨gb233, _, none⟩) NB228_233.out _).trans (hHeld.2.2.2))))))))⟩ (fun hHeld => ?_)
  clear hK K
  refine done_ (done_of HT_.out (by kernel_rfl)) ?_
  have hnb15 := NB228_229.out
  have hnc15 := NB229_228.out
  have hnb16 := NB228_233.out
  have hnc16 := NB233_228.out
  have hcz17_0 : w9.cell? ⟨gb228, 0, none⟩ = some (.int .i64 a0_0) := (blk_cell BK228.out 0).trans rfl
  have hcz17_1 : w9.cell? ⟨gb228, 1, none⟩ = some (.string a0_1) := (blk_cell BK228.out 1).trans rfl
  have hcz17_2 : w9.cell? ⟨gb228, 2, none⟩ = some (.slice A0_2 l0_2.length c0_2) := (blk_cell BK228.out 2).trans rfl
  have hcz17_3 : w9.cell? ⟨gb228, 3, none⟩ = some (.slice A0_3 l0_3.length c0_3) := (blk_cell BK228.out 3).trans rfl
  have hfz17_0 := blk_frozen BK228.out 0
  have hfz17_1 := blk_frozen BK228.out 1
  have hfz17_2 := blk_frozen BK228.out 2
  have hfz17_3 := blk_frozen BK228.out 3
  try go_wp2
  go_loopg [17] k (fun kq v17 w' => ∃ (x17_1 : Int) (x234002_1 : List (S59)) (u234002 : Value), v17 = .int .i64 x17_1 ∧ Aside0 (impl_log.l0 kq l0_2 (l0_2.length : Int) x17_1 a0_0 a0_1 x234002_1 t230 = some (r1, r2, r3, r4)) ∧ Aside0 (kq ≤ k) ∧ Aside0 (Kd.R k59 59 w' w.heap.size (fun k_ => some k_ ≠ ((.slice Ao10 t230.length co10) : Value).ownBlock) u234002 x234002_1) ∧ Aside0 (Kd.R k79 79 w' w.heap.size (fun _ => True) (.slice Ao10 t230.length co10) t230) ∧ Aside0 (w'.heap[gb228]? = some (.cells #[.int .i64 a0_0, .string a0_1, (.slice A0_2 l0_2.length c0_2), (.slice A0_3 l0_3.length c0_3)] 25 (0, 0))) ∧ Aside0 (w'.heap[gb229]? = some (.cells #[.int .i64 0, .string (⟨#[]⟩ : ByteArray), (.slice none 0 0), (.slice none 0 0)] 49 (0, 0))) ∧ Aside0 (w'.heap[gb233]? = some (.cells #[.int .i64 a0_0, .string a0_1, u234002, (.slice Ao10 t230.length co10)] 49 (0, 0))) ∧ Aside0 (Below w.heap.size w w'))
  case atStart => exact ⟨(0), (([] : List (S59))), (.slice none 0 0), (by first | rfl | (simp; done) | (simp [*]; done)), H', ⟨Nat.le_refl _⟩, ⟨by first | exact Kd.R_nil _ _ _ _ _ | exact Kd.N_nil _ _ _ _ _ | exact Kd.V_nil _ _ _ _ _ | exact Kd.Q_nil _ _ _ _ _ | exact Kd.S_nil _ _ _ _ _⟩, ⟨by (with_reducible repeat (first | apply Kd.R_alloc | apply Kd.R_drewN | apply Kd.R_drew)); exact Kd.R_mono (Kd.R_far (p := ⟨gb233, 3, none⟩) (Kd.R_far (p := ⟨gb233, 2, none⟩) (Kd.R_far (p := ⟨gb233, 1, none⟩) (Kd.R_far (p := ⟨gb233, 0, none⟩) (Kd.R_types HO232.out BK233.out (by decide)) (fun _ hk => hk.2) (.int .i64 a0_0)) (fun _ hk => hk.2) (.string a0_1)) (fun _ hk => hk.2) (.slice none 0 0)) (fun _ hk => hk.2) (.slice Ao10 t230.length co10)) (fun _ hk => trivial)⟩, ⟨by (with_reducible repeat (first | refine blk_drewN ?_ _ | refine blk_drew ?_ | refine blk_alloc ?_ _)); refine blk_far ?_ NB228_233.out _; (with_reducible repeat (first | refine blk_drewN ?_ _ | refine blk_drew ?_ | refine blk_alloc ?_ _)); refine blk_far ?_ NB228_233.out _; (with_reducible repeat (first | refine blk_drewN ?_ _ | refine blk_drew ?_ | refine blk_alloc ?_ _)); refine blk_far ?_ NB228_233.out _; (with_reducible repeat (first | refine blk_drewN ?_ _ | refine blk_drew ?_ | refine blk_alloc ?_ _)); refine blk_far ?_ NB228_233.out _; (with_reducible repeat (first | refine blk_drewN ?_ _ | refine blk_drew ?_ | refine blk_alloc ?_ _)); exact BK228.out⟩, ⟨by (with_reducible repeat (first | refine blk_drewN ?_ _ | refine blk_drew ?_ | refine blk_alloc ?_ _)); refine blk_far ?_ NB229_233.out _; (with_reducible repeat (first | refine blk_drewN ?_ _ | refine blk_drew ?_ | refine blk_alloc ?_ _)); refine blk_far ?_ NB229_233.out _; (with_reducible repeat (first | refine blk_drewN ?_ _ | refine blk_drew ?_ | refine blk_alloc ?_ _)); refine blk_far ?_ NB229_233.out _; (with_reducible repeat (first | refine blk_drewN ?_ _ | refine blk_drew ?_ | refine blk_alloc ?_ _)); refine blk_far ?_ NB229_233.out _; (with_reducible repeat (first | refine blk_drewN ?_ _ | refine blk_drew ?_ | refine blk_alloc ?_ _)); exact BK229.out⟩, ⟨by (with_reducible repeat (first | refine blk_drewN ?_ _ | refine blk_drew ?_ | refine blk_alloc ?_ _)); refine blk_put (cs := #[.int .i64 a0_0, .string a0_1, .slice none 0 0, .slice none 0 0]) ?_ 3 _ rfl; (with_reducible repeat (first | refine blk_drewN ?_ _ | refine blk_drew ?_ | refine blk_alloc ?_ _)); refine blk_put (cs := #[.int .i64 a0_0, .string a0_1, .slice none 0 0, .slice none 0 0]) ?_ 2 _ rfl; (with_reducible repeat (first | refine blk_drewN ?_ _ | refine blk_drew ?_ | refine blk_alloc ?_ _)); refine blk_put (cs := #[.int .i64 a0_0, .string (⟨#[]⟩ : ByteArray), .slice none 0 0, .slice none 0 0]) ?_ 1 _ rfl; (with_reducible repeat (first | refine blk_drewN ?_ _ | refine blk_drew ?_ | refine blk_alloc ?_ _)); refine blk_put (cs := #[.int .i64 0, .string (⟨#[]⟩ : ByteArray), .slice none 0 0, .slice none 0 0]) ?_ 0 _ rfl; (with_reducible repeat (first | refine blk_drewN ?_ _ | refine blk_drew ?_ | refine blk_alloc ?_ _)); exact BK233.out⟩, ⟨by repeat (first | (with_reducible first | exact HB.out | apply below_alloc | apply pw_below_drewN | apply below_drew1 | refine below_set ?_ GE228.out | refine below_set ?_ GE229.out | refine below_set ?_ GE233.out) | exact HB.out)⟩⟩
  case round =>
    clear H'
    try clear c1
    try clear c2
    try clear p2
    try clear c15
    try clear c16
    try clear hcz17_0
    try clear hcz17_1
    try clear hcz17_2
    try clear hcz17_3
    try clear hfz17_0
    try clear hfz17_1
    try clear hfz17_2
    try clear hfz17_3
    obtain ⟨x17_1, x234002_1, u234002, rfl, HA, HK1, HO_234002, HO_234003, BK228, BK229, BK233, HB⟩ := hrel
    cases gk with
    | zero => exact absurd HA.out (by simp [impl_log.l0])
    | succ k1 =>
      have H := HA.out
      clear HA
      simp only [impl_log.l0] at H
      by_cases c18 : x17_1 < (l0_2.length : Int)
      · rw [if_pos c18] at H
        have c18b0 : decide (x17_1 < (l0_2.length : Int)) = true := decide_eq_true c18
        clear c18
        by_cases c19 : 0 ≤ x17_1
        · rw [if_pos c19] at H
          have c19b0 : decide (0 ≤ x17_1) = true := decide_eq_true c19
          clear c19
          by_cases c20 : x17_1 < (l0_2.length : Int)
          · rw [if_pos c20] at H
            have c20b0 : decide (x17_1 < (l0_2.length : Int)) = true := decide_eq_true c20
            clear c20
            replace H := Option.bind_eq_some_iff.mp H
            obtain ⟨t236, A210, H⟩ := H
            replace H : (if x234002_1.length < 2932031007402 then (impl_log.l0 k1 l0_2 (l0_2.length : Int) (wrap64 (x17_1 + 1)) a0_0 a0_1 (x234002_1 ++ [(⟨(rd_T36 l0_2 x17_1).f0, t236, (rd_T36 l0_2 x17_1).f2⟩ : S59)]) t230) else (none)) = some (r1, r2, r3, r4) := H
            have A21 := Aside0.mk A210
            clear A210
            by_cases c22 : x234002_1.length < 2932031007402
            · rw [if_pos c22] at H
              have LMc22 := Aside0.mk c22
              clear c22
              obtain ⟨y239, hy239⟩ : ∃ y_ : List (S59), y_ = (x234002_1 ++ [(⟨(rd_T36 l0_2 x17_1).f0, t236, (rd_T36 l0_2 x17_1).f2⟩ : S59)]) := ⟨_, rfl⟩
              replace H : (impl_log.l0 k1 l0_2 (l0_2.length : Int) (wrap64 (x17_1 + 1)) a0_0 a0_1 y239 t230) = some (r1, r2, r3, r4) := by first | (rw [hy239]; with_reducible exact H) | (have H2_ := (Option.bind_some _ _).symm.trans H; rw [hy239]; with_reducible exact H2_) | (have H2_ := (Option.bind_some _ _).symm.trans H; with_reducible exact H2_) | with_reducible exact H | (rw [hy239]; exact H) | exact H
              have Ny239 := Aside0.mk hy239
              clear hy239
              have H' := Aside0.mk H
              clear H
              have p234 : 0 ≤ (x17_1 : Int) := of_decide_eq_true (by first | (with_reducible assumption) | assumption)
              have q234 : x17_1 < (l0_2.length : Int) := of_decide_eq_true (by first | (with_reducible assumption) | assumption)
              obtain ⟨ad234, A234_1, c234_1, e234, hx234_0, hx234_1, hx234_2, hl234_1, hi234_1⟩ := at_T36 HR0_2.out x17_1 p234 q234
              cases e234
              replace hx234_0 := (HB.out.cell (World.block_lt_of_cell? w _ hx234_0)).trans hx234_0
              replace hx234_1 := (HB.out.cell (World.block_lt_of_cell? w _ hx234_1)).trans hx234_1
              replace hx234_2 := (HB.out.cell (World.block_lt_of_cell? w _ hx234_2)).trans hx234_2
              have HR234_1 := Aside0.mk hi234_1
              have HC234_1 := Aside0.mk hl234_1
              clear hi234_1 hl234_1
              replace p234 := eq_true p234
              replace q234 := eq_true q234
              try go_wp2_with (first | ((with_reducible refine gate_dst (N := 5) rfl ?_); refine box_event ?hg (N := 5) ?hd (cs := #[.string (⟨#[]⟩ : ByteArray), .slice none 0 0, .bool false]) (t := 36) ?hr ?_; (case hd => rfl); (case hg => rfl); (case hr => first | (go_simp; done) | (go_simp; rfl)); intro gb235 hg w23 hbox hb; have n0_ := Aside0.mk (Kd.R_below (by (with_reducible repeat (first | apply Kd.R_alloc | apply Kd.R_drewN | apply Kd.R_drew)); exact HO_234002.out) hb); have n1_ := Aside0.mk (Kd.R_below (by (with_reducible repeat (first | apply Kd.R_alloc | apply Kd.R_drewN | apply Kd.R_drew)); exact HO_234003.out) hb); have n2_ := Aside0.mk (blk_below (g := gb228) (o := .cells #[.int .i64 a0_0, .string a0_1, .slice (some ad234) l0_2.length c0_2, .slice A0_3 l0_3.length c0_3] 25 (0, 0)) (by (with_reducible repeat (first | refine blk_drewN ?_ _ | refine blk_drew ?_ | refine blk_alloc ?_ _)); exact BK228.out) hb); have n3_ := Aside0.mk (blk_below (g := gb229) (o := .cells #[.int .i64 0, .string (⟨#[]⟩ : ByteArray), .slice none 0 0, .slice none 0 0] 49 (0, 0)) (by (with_reducible repeat (first | refine blk_drewN ?_ _ | refine blk_drew ?_ | refine blk_alloc ?_ _)); exact BK229.out) hb); have n4_ := Aside0.mk (blk_below (g := gb233) (o := .cells #[.int .i64 a0_0, .string a0_1, u234002, .slice Ao10 t230.length co10] 49 (0, 0)) (by (with_reducible repeat (first | refine blk_drewN ?_ _ | refine blk_drew ?_ | refine blk_alloc ?_ _)); exact BK233.out) hb); have n5_ := Aside0.mk (below_step (by repeat (first | (with_reducible first | exact HB.out | apply below_alloc | apply pw_below_drewN | apply below_drew1 | refine below_set ?_ GE228.out | refine below_set ?_ GE229.out | refine below_set ?_ GE233.out) | exact HB.out)) hb); have n6_ := Aside0.mk (hbox); have n7_ := Aside0.mk ((by rw [hg]; exact (below_size (by repeat (first | (with_reducible first | exact HB.out | apply below_alloc | apply pw_below_drewN | apply below_drew1 | refine below_set ?_ GE228.out | refine below_set ?_ GE229.out | refine below_set ?_ GE233.out) | exact HB.out))) : w.heap.size ≤ gb235)); have n8_ := Aside0.mk ((by rw [hg]; exact (below_size (by repeat (first | (with_reducible first | exact HB.out | apply below_alloc | apply pw_below_drewN | apply below_drew1 | refine below_set ?_ GE228.out | refine below_set ?_ GE229.out | refine below_set ?_ GE233.out) | exact HB.out))) : w.heap.size ≤ gb235)); have n9_ := Aside0.mk ((by rw [hg]; exact Nat.ne_of_lt (blk_lt (g := gb228) (o := .cells #[.int .i64 a0_0, .string a0_1, .slice (some ad234) l0_2.length c0_2, .slice A0_3 l0_3.length c0_3] 25 (0, 0)) (by (with_reducible repeat (first | refine blk_drewN ?_ _ | refine blk_drew ?_ | refine blk_alloc ?_ _)); exact BK228.out)) : gb228 ≠ gb235)); have n10_ := Aside0.mk ((by rw [hg]; exact Nat.ne_of_gt (blk_lt (g := gb228) (o := .cells #[.int .i64 a0_0, .string a0_1, .slice (some ad234) l0_2.length c0_2, .slice A0_3 l0_3.length c0_3] 25 (0, 0)) (by (with_reducible repeat (first | refine blk_drewN ?_ _ | refine blk_drew ?_ | refine blk_alloc ?_ _)); exact BK228.out)) : gb235 ≠ gb228)); have n11_ := Aside0.mk ((by rw [hg]; exact Nat.ne_of_lt (blk_lt (g := gb229) (o := .cells #[.int .i64 0, .string (⟨#[]⟩ : ByteArray), .slice none 0 0, .slice none 0 0] 49 (0, 0)) (by (with_reducible repeat (first | refine blk_drewN ?_ _ | refine blk_drew ?_ | refine blk_alloc ?_ _)); exact BK229.out)) : gb229 ≠ gb235)); have n12_ := Aside0.mk ((by rw [hg]; exact Nat.ne_of_gt (blk_lt (g := gb229) (o := .cells #[.int .i64 0, .string (⟨#[]⟩ : ByteArray), .slice none 0 0, .slice none 0 0] 49 (0, 0)) (by (with_reducible repeat (first | refine blk_drewN ?_ _ | refine blk_drew ?_ | refine blk_alloc ?_ _)); exact BK229.out)) : gb235 ≠ gb229)); have n13_ := Aside0.mk ((by rw [hg]; exact Nat.ne_of_lt (blk_lt (g := gb233) (o := .cells #[.int .i64 a0_0, .string a0_1, u234002, .slice Ao10 t230.length co10] 49 (0, 0)) (by (with_reducible repeat (first | refine blk_drewN ?_ _ | refine blk_drew ?_ | refine blk_alloc ?_ _)); exact BK233.out)) : gb233 ≠ gb235)); have n14_ := Aside0.mk ((by rw [hg]; exact Nat.ne_of_gt (blk_lt (g := gb233) (o := .cells #[.int .i64 a0_0, .string a0_1, u234002, .slice Ao10 t230.length co10] 49 (0, 0)) (by (with_reducible repeat (first | refine blk_drewN ?_ _ | refine blk_drew ?_ | refine blk_alloc ?_ _)); exact BK233.out)) : gb235 ≠ gb233)); clear HO_234002; clear HO_234003; clear BK228; clear BK229; clear BK233; clear HB; have HO_234002 := n0_; have HO_234003 := n1_; have BK228 := n2_; have BK229 := n3_; have BK233 := n4_; have HB := n5_; have BK235 := n6_; have GW235 := n7_; have GE235 := n8_; have NB228_235 := n9_; have NB235_228 := n10_; have NB229_235 := n11_; have NB235_229 := n12_; have NB233_235 := n13_; have NB235_233 := n14_; clear n0_ n1_ n2_ n3_ n4_ n5_ n6_ n7_ n8_ n9_ n10_ n11_ n12_ n13_ n14_; clear hb hbox hg; have hnb24 := NB235_228.out; have hnc24 := NB228_235.out; have hnb25 := NB235_229.out; have hnc25 := NB229_235.out; have hnb26 := NB235_233.out; have hnc26 := NB233_235.out; have hcz27_0 : w23.cell? ⟨gb235, 0, none⟩ = some (.string (⟨#[]⟩ : ByteArray)) := (blk_cell BK235.out 0).trans rfl; have hcz27_1 : w23.cell? ⟨gb235, 1, none⟩ = some (.slice none 0 0) := (blk_cell BK235.out 1).trans rfl; have hcz27_2 : w23.cell? ⟨gb235, 2, none⟩ = some (.bool false) := (blk_cell BK235.out 2).trans rfl; have hfz27_0 := blk_frozen BK235.out 0; have hfz27_1 := blk_frozen BK235.out 1; have hfz27_2 := blk_frozen BK235.out 2))
              have n0_ : Aside0 (Kd.R k59 59 (((w23.setCell ⟨gb235, 0, none⟩ (.string ((rd_T36 l0_2 x17_1).f0))).setCell ⟨gb235, 1, none⟩ (.slice A234_1 ((rd_T36 l0_2 x17_1).f1).length c234_1)).setCell ⟨gb235, 2, none⟩ (.bool ((rd_T36 l0_2 x17_1).f2))) w.heap.size (fun k_ => some k_ ≠ (.slice Ao10 t230.length co10 : Value).ownBlock) u234002 x234002_1) := ⟨by (with_reducible repeat (first | apply Kd.R_alloc | apply Kd.R_drewN | apply Kd.R_drew)); exact Kd.R_mono (Kd.R_far (p := ⟨gb235, 2, none⟩) (Kd.R_far (p := ⟨gb235, 1, none⟩) (Kd.R_far (p := ⟨gb235, 0, none⟩) (Kd.R_types HO_234002.out BK235.out (by decide)) (fun _ hk => hk.2) (.string ((rd_T36 l0_2 x17_1).f0))) (fun _ hk => hk.2) (.slice A234_1 ((rd_T36 l0_2 x17_1).f1).length c234_1)) (fun _ hk => hk.2) (.bool ((rd_T36 l0_2 x17_1).f2))) (fun _ hk => hk.1)⟩
              have n1_ : Aside0 (Kd.R k79 79 (((w23.setCell ⟨gb235, 0, none⟩ (.string ((rd_T36 l0_2 x17_1).f0))).setCell ⟨gb235, 1, none⟩ (.slice A234_1 ((rd_T36 l0_2 x17_1).f1).length c234_1)).setCell ⟨gb235, 2, none⟩ (.bool ((rd_T36 l0_2 x17_1).f2))) w.heap.size (fun _ => True) (.slice Ao10 t230.length co10) t230) := ⟨by (with_reducible repeat (first | apply Kd.R_alloc | apply Kd.R_drewN | apply Kd.R_drew)); exact Kd.R_mono (Kd.R_far (p := ⟨gb235, 2, none⟩) (Kd.R_far (p := ⟨gb235, 1, none⟩) (Kd.R_far (p := ⟨gb235, 0, none⟩) (Kd.R_types HO_234003.out BK235.out (by decide)) (fun _ hk => hk.2) (.string ((rd_T36 l0_2 x17_1).f0))) (fun _ hk => hk.2) (.slice A234_1 ((rd_T36 l0_2 x17_1).f1).length c234_1)) (fun _ hk => hk.2) (.bool ((rd_T36 l0_2 x17_1).f2))) (fun _ hk => trivial)⟩
              have n2_ : Aside0 ((((w23.setCell ⟨gb235, 0, none⟩ (.string ((rd_T36 l0_2 x17_1).f0))).setCell ⟨gb235, 1, none⟩ (.slice A234_1 ((rd_T36 l0_2 x17_1).f1).length c234_1)).setCell ⟨gb235, 2, none⟩ (.bool ((rd_T36 l0_2 x17_1).f2))).heap[gb228]? = some (.cells #[.int .i64 a0_0, .string a0_1, .slice (some ad234) l0_2.length c0_2, .slice A0_3 l0_3.length c0_3] 25 (0, 0))) := ⟨by (with_reducible repeat (first | refine blk_drewN ?_ _ | refine blk_drew ?_ | refine blk_alloc ?_ _)); refine blk_far ?_ NB228_235.out _; (with_reducible repeat (first | refine blk_drewN ?_ _ | refine blk_drew ?_ | refine blk_alloc ?_ _)); refine blk_far ?_ NB228_235.out _; (with_reducible repeat (first | refine blk_drewN ?_ _ | refine blk_drew ?_ | refine blk_alloc ?_ _)); refine blk_far ?_ NB228_235.out _; (with_reducible repeat (first | refine blk_drewN ?_ _ | refine blk_drew ?_ | refine blk_alloc ?_ _)); exact BK228.out⟩
              have n3_ : Aside0 ((((w23.setCell ⟨gb235, 0, none⟩ (.string ((rd_T36 l0_2 x17_1).f0))).setCell ⟨gb235, 1, none⟩ (.slice A234_1 ((rd_T36 l0_2 x17_1).f1).length c234_1)).setCell ⟨gb235, 2, none⟩ (.bool ((rd_T36 l0_2 x17_1).f2))).heap[gb229]? = some (.cells #[.int .i64 0, .string (⟨#[]⟩ : ByteArray), .slice none 0 0, .slice none 0 0] 49 (0, 0))) := ⟨by (with_reducible repeat (first | refine blk_drewN ?_ _ | refine blk_drew ?_ | refine blk_alloc ?_ _)); refine blk_far ?_ NB229_235.out _; (with_reducible repeat (first | refine blk_drewN ?_ _ | refine blk_drew ?_ | refine blk_alloc ?_ _)); refine blk_far ?_ NB229_235.out _; (with_reducible repeat (first | refine blk_drewN ?_ _ | refine blk_drew ?_ | refine blk_alloc ?_ _)); refine blk_far ?_ NB229_235.out _; (with_reducible repeat (first | refine blk_drewN ?_ _ | refine blk_drew ?_ | refine blk_alloc ?_ _)); exact BK229.out⟩
              have n4_ : Aside0 ((((w23.setCell ⟨gb235, 0, none⟩ (.string ((rd_T36 l0_2 x17_1).f0))).setCell ⟨gb235, 1, none⟩ (.slice A234_1 ((rd_T36 l0_2 x17_1).f1).length c234_1)).setCell ⟨gb235, 2, none⟩ (.bool ((rd_T36 l0_2 x17_1).f2))).heap[gb233]? = some (.cells #[.int .i64 a0_0, .string a0_1, u234002, .slice Ao10 t230.length co10] 49 (0, 0))) := ⟨by (with_reducible repeat (first | refine blk_drewN ?_ _ | refine blk_drew ?_ | refine blk_alloc ?_ _)); refine blk_far ?_ NB233_235.out _; (with_reducible repeat (first | refine blk_drewN ?_ _ | refine blk_drew ?_ | refine blk_alloc ?_ _)); refine blk_far ?_ NB233_235.out _; (with_reducible repeat (first | refine blk_drewN ?_ _ | refine blk_drew ?_ | refine blk_alloc ?_ _)); refine blk_far ?_ NB233_235.out _; (with_reducible repeat (first | refine blk_drewN ?_ _ | refine blk_drew ?_ | refine blk_alloc ?_ _)); exact BK233.out⟩
              have n5_ : Aside0 ((((w23.setCell ⟨gb235, 0, none⟩ (.string ((rd_T36 l0_2 x17_1).f0))).setCell ⟨gb235, 1, none⟩ (.slice A234_1 ((rd_T36 l0_2 x17_1).f1).length c234_1)).setCell ⟨gb235, 2, none⟩ (.bool ((rd_T36 l0_2 x17_1).f2))).heap[gb235]? = some (.cells #[.string ((rd_T36 l0_2 x17_1).f0), .slice A234_1 ((rd_T36 l0_2 x17_1).f1).length c234_1, .bool ((rd_T36 l0_2 x17_1).f2)] 36 (0, 0))) := ⟨by (with_reducible repeat (first | refine blk_drewN ?_ _ | refine blk_drew ?_ | refine blk_alloc ?_ _)); refine blk_put (cs := #[.string ((rd_T36 l0_2 x17_1).f0), .slice A234_1 ((rd_T36 l0_2 x17_1).f1).length c234_1, .bool false]) ?_ 2 _ rfl; (with_reducible repeat (first | refine blk_drewN ?_ _ | refine blk_drew ?_ | refine blk_alloc ?_ _)); refine blk_put (cs := #[.string ((rd_T36 l0_2 x17_1).f0), .slice none 0 0, .bool false]) ?_ 1 _ rfl; (with_reducible repeat (first | refine blk_drewN ?_ _ | refine blk_drew ?_ | refine blk_alloc ?_ _)); refine blk_put (cs := #[.string (⟨#[]⟩ : ByteArray), .slice none 0 0, .bool false]) ?_ 0 _ rfl; (with_reducible repeat (first | refine blk_drewN ?_ _ | refine blk_drew ?_ | refine blk_alloc ?_ _)); exact BK235.out⟩
              have n6_ : Aside0 (Below w.heap.size w (((w23.setCell ⟨gb235, 0, none⟩ (.string ((rd_T36 l0_2 x17_1).f0))).setCell ⟨gb235, 1, none⟩ (.slice A234_1 ((rd_T36 l0_2 x17_1).f1).length c234_1)).setCell ⟨gb235, 2, none⟩ (.bool ((rd_T36 l0_2 x17_1).f2)))) := ⟨by repeat (first | (with_reducible first | exact HB.out | apply below_alloc | apply pw_below_drewN | apply below_drew1 | refine below_set ?_ GE228.out | refine below_set ?_ GE229.out | refine below_set ?_ GE233.out | refine below_set ?_ GE235.out) | exact HB.out)⟩
              (try clear HO_234002)
              (try clear HO_234003)
              (try clear BK228)
              (try clear BK229)
              (try clear BK233)
              (try clear BK235)
              (try clear HB)
              generalize (((w23.setCell ⟨gb235, 0, none⟩ (.string ((rd_T36 l0_2 x17_1).f0))).setCell ⟨gb235, 1, none⟩ (.slice A234_1 ((rd_T36 l0_2 x17_1).f1).length c234_1)).setCell ⟨gb235, 2, none⟩ (.bool ((rd_T36 l0_2 x17_1).f2))) = w28 at n0_ n1_ n2_ n3_ n4_ n5_ n6_ ⊢
              have HO_234002 := n0_
              have HO_234003 := n1_
              have BK228 := n2_
              have BK229 := n3_
              have BK233 := n4_
              have BK235 := n5_
              have HB := n6_
              clear n0_ n1_ n2_ n3_ n4_ n5_ n6_
              have n0_ := Aside0.mk (Kd.R_drew HO_234002.out)
              have n1_ := Aside0.mk (Kd.R_drew HO_234003.out)
              have n2_ := Aside0.mk (blk_drew BK228.out)
              have n3_ := Aside0.mk (blk_drew BK229.out)
              have n4_ := Aside0.mk (blk_drew BK233.out)
              have n5_ := Aside0.mk (blk_drew BK235.out)
              have n6_ := Aside0.mk (below_drew1 HB.out)
              clear HO_234002
              clear HO_234003
              clear BK228
              clear BK229
              clear BK233
              clear BK235
              clear HB
              have HO_234002 := n0_
              have HO_234003 := n1_
              have BK228 := n2_
              have BK229 := n3_
              have BK233 := n4_
              have BK235 := n5_
              have HB := n6_
              clear n0_ n1_ n2_ n3_ n4_ n5_ n6_
              refine start_ (n := 14) (S := fun w' => w'.cell? ⟨gb233, 0, none⟩ = some (.int .i64 a0_0) ∧ w'.cell? ⟨gb233, 1, none⟩ = some (.string a0_1) ∧ w'.cell? ⟨gb233, 2, none⟩ = some (u234002) ∧ w'.cell? ⟨gb233, 3, none⟩ = some (.slice Ao10 t230.length co10) ∧ w'.cell? ⟨gb235, 0, none⟩ = some (.string ((rd_T36 l0_2 x17_1).f0)) ∧ w'.cell? ⟨gb235, 1, none⟩ = some (.slice A234_1 ((rd_T36 l0_2 x17_1).f1).length c234_1) ∧ w'.cell? ⟨gb235, 2, none⟩ = some (.bool ((rd_T36 l0_2 x17_1).f2))) (ds := [13]) #[false, false, false, false, false, false, false, false, false, false, false, false, false, false] (by kernel_rfl) rfl rfl ⟨(blk_cell BK233.out 0).trans rfl, (blk_cell BK233.out 1).trans rfl, (blk_cell BK233.out 2).trans rfl, (blk_cell BK233.out 3).trans rfl, (blk_cell BK235.out 0).trans rfl, (blk_cell BK235.out 1).trans rfl, (blk_cell BK235.out 2).trans rfl⟩ (fun hHeld => ?_); refine with_tabW impl_log.tab5 impl_log.bits5 (fun HT_ HW_ => ?_)
              generalize w28.drew = w29 at HO_234002 HO_234003 BK228 BK229 BK233 BK235 HB hHeld ⊢
              refine pure_ (i := 0) (N := some 21) (v := ?_) (a' := ?_) #[true, false, false, false, false, false, false, false, false, false, false, false, false, false] rfl rfl (any_of HT_.out (by kernel_rfl)) (fun _ _ _ h => h) (Or.inl ⟨by rfl, ?_⟩) ?_ ?_
              rotate_left
              · intro w'
                go_simp
                with_reducible rfl
              rotate_left
              · simp only [Act.put, List.setIfInBounds_toArray, List.set_cons_zero, List.set_cons_succ, i64_w, i32_w]
                rfl
              refine pure_ (i := 2) (N := some 23) (v := ?_) (a' := ?_) #[true, false, true, false, false, false, false, false, false, false, false, false, false, false] rfl rfl (any_of HT_.out (by kernel_rfl)) (fun _ _ _ h => h) (Or.inl ⟨by rfl, ?_⟩) ?_ ?_
              rotate_left
              · intro w'
                go_simp
                with_reducible rfl
              rotate_left
              · simp only [Act.put, List.setIfInBounds_toArray, List.set_cons_zero, List.set_cons_succ, i64_w, i32_w]
                rfl
              refine pure_ (i := 4) (N := some 25) (v := ?_) (a' := ?_) #[true, false, true, false, true, false, false, false, false, false, false, false, false, false] rfl rfl (any_of HT_.out (by kernel_rfl)) (fun _ _ _ h => h) (Or.inl ⟨by rfl, ?_⟩) ?_ ?_
              rotate_left
              · intro w'
                go_simp
                with_reducible rfl
              rotate_left
              · simp only [Act.put, List.setIfInBounds_toArray, List.set_cons_zero, List.set_cons_succ, i64_w, i32_w]
                rfl
              refine pure_ (i := 7) (N := some 28) (v := ?_) (a' := ?_) #[true, false, true, false, true, false, false, true, false, false, false, false, false, false] rfl rfl (any_of HT_.out (by kernel_rfl)) (fun _ _ _ h => h) (Or.inl ⟨by rfl, ?_⟩) ?_ ?_
              rotate_left
              · intro w'
                go_simp
                with_reducible rfl
              rotate_left
              · simp only [Act.put, List.setIfInBounds_toArray, List.set_cons_zero, List.set_cons_succ, i64_w, i32_w]
                rfl
              refine take_ (i := 1) (N := some 22) (v := ?_) (a' := ?_) #[true, true, true, false, true, false, false, true, false, false, false, false, false, false] rfl rfl (take_ofW HT_.out HW_.out (by kernel_rfl)) (fun _ _ _ h => h) (Or.inl ⟨by rfl, ?_⟩) hHeld ?_ ?_
              rotate_left
              · rintro w' ⟨s0, s1, s2, s3, s4, s5, s6⟩
                go_simp
                with_reducible rfl
              rotate_left
              · simp only [Act.put, List.setIfInBounds_toArray, List.set_cons_zero, List.set_cons_succ, i64_w, i32_w]
                rfl
              refine take_ (i := 3) (N := some 24) (v := ?_) (a' := ?_) #[true, true, true, true, true, false, false, true, false, false, false, false, false, false] rfl rfl (take_ofW HT_.out HW_.out (by kernel_rfl)) (fun _ _ _ h => h) (Or.inl ⟨by rfl, ?_⟩) hHeld ?_ ?_
              rotate_left
              · rintro w' ⟨s0, s1, s2, s3, s4, s5, s6⟩
                go_simp
                with_reducible rfl
              rotate_left
              · simp only [Act.put, List.setIfInBounds_toArray, List.set_cons_zero, List.set_cons_succ, i64_w, i32_w]
                rfl
              refine take_ (i := 5) (N := some 26) (v := ?_) (a' := ?_) #[true, true, true, true, true, true, false, true, false, false, false, false, false, false] rfl rfl (take_ofW HT_.out HW_.out (by kernel_rfl)) (fun _ _ _ h => h) (Or.inl ⟨by rfl, ?_⟩) hHeld ?_ ?_
              rotate_left
              · rintro w' ⟨s0, s1, s2, s3, s4, s5, s6⟩
                go_simp
                with_reducible rfl
              rotate_left
              · simp only [Act.put, List.setIfInBounds_toArray, List.set_cons_zero, List.set_cons_succ, i64_w, i32_w]
                rfl
              refine take_ (i := 8) (N := some 29) (v := ?_) (a' := ?_) #[true, true, true, true, true, true, false, true, true, false, false, false, false, false] rfl rfl (take_ofW HT_.out HW_.out (by kernel_rfl)) (fun _ _ _ h => h) (Or.inl ⟨by rfl, ?_⟩) hHeld ?_ ?_
              rotate_left
              · rintro w' ⟨s0, s1, s2, s3, s4, s5, s6⟩
                go_simp
                with_reducible rfl
              rotate_left
              · simp only [Act.put, List.setIfInBounds_toArray, List.set_cons_zero, List.set_cons_succ, i64_w, i32_w]
                rfl
              refine one_ (i := 6) (N := some 27) #[true, true, true, true, true, true, true, true, true, false, false, false, false, false] rfl rfl (one_of HT_.out (by kernel_rfl)) (by decide) (fun K hK => ?_)
              refine goes_ Tryz.func28 (by kernel_rfl) rfl #[.slice A234_1 ((rd_T36 l0_2 x17_1).f1).length c234_1] (by rfl) rfl rfl (by (try simp only [List.map_toArray, List.map_cons, List.map_nil]); first | done | rfl | (simp only [List.length_drop, List.length_take]; rfl)) ?_
              with_reducible refine (impl_attrs.calls k1 _ _ ((rd_T36 l0_2 x17_1).f1) t236 _ ?side1 ?side2 A21.out).mono ?_
              (case side1 => repeat (first | exact (Kd.C_below HR234_1.out HB.out) | (with_reducible refine Kd.C_alloc ?_ _) | (with_reducible refine Kd.C_drewN ?_ _) | (with_reducible refine Kd.C_drew ?_)))
              (case side2 => exact HC234_1.out)
              rintro e w30 ⟨v237, rfl, ho0, hb⟩
              refine ⟨_, rfl, ?_⟩
              have n0_ := Aside0.mk (Kd.R_elder' (by (with_reducible repeat (first | apply Kd.R_alloc | apply Kd.R_drewN | apply Kd.R_drew)); exact HO_234002.out) (Kd.R_base ho0) hb)
              have n1_ := Aside0.mk (Kd.R_elder' (by (with_reducible repeat (first | apply Kd.R_alloc | apply Kd.R_drewN | apply Kd.R_drew)); exact HO_234003.out) (Kd.R_base ho0) hb)
              have n2_ := Aside0.mk (Kd.R_lower (Kd.R_new' ho0 (Kd.R_lt (by (with_reducible repeat (first | apply Kd.R_alloc | apply Kd.R_drewN | apply Kd.R_drew)); exact HO_234003.out))) (below_size (by repeat (first | (with_reducible first | exact HB.out | apply below_alloc | apply pw_below_drewN | apply below_drew1 | refine below_set ?_ GE228.out | refine below_set ?_ GE229.out | refine below_set ?_ GE233.out | refine below_set ?_ GE235.out) | exact HB.out))))
              have n3_ := Aside0.mk (blk_below (g := gb228) (o := .cells #[.int .i64 a0_0, .string a0_1, .slice (some ad234) l0_2.length c0_2, .slice A0_3 l0_3.length c0_3] 25 (0, 0)) (by (with_reducible repeat (first | refine blk_drewN ?_ _ | refine blk_drew ?_ | refine blk_alloc ?_ _)); exact BK228.out) hb)
              have n4_ := Aside0.mk (blk_below (g := gb229) (o := .cells #[.int .i64 0, .string (⟨#[]⟩ : ByteArray), .slice none 0 0, .slice none 0 0] 49 (0, 0)) (by (with_reducible repeat (first | refine blk_drewN ?_ _ | refine blk_drew ?_ | refine blk_alloc ?_ _)); exact BK229.out) hb)
              have n5_ := Aside0.mk (blk_below (g := gb233) (o := .cells #[.int .i64 a0_0, .string a0_1, u234002, .slice Ao10 t230.length co10] 49 (0, 0)) (by (with_reducible repeat (first | refine blk_drewN ?_ _ | refine blk_drew ?_ | refine blk_alloc ?_ _)); exact BK233.out) hb)
              have n6_ := Aside0.mk (blk_below (g := gb235) (o := .cells #[.string ((rd_T36 l0_2 x17_1).f0), .slice A234_1 ((rd_T36 l0_2 x17_1).f1).length c234_1, .bool ((rd_T36 l0_2 x17_1).f2)] 36 (0, 0)) (by (with_reducible repeat (first | refine blk_drewN ?_ _ | refine blk_drew ?_ | refine blk_alloc ?_ _)); exact BK235.out) hb)
              have n7_ := Aside0.mk (below_step (by repeat (first | (with_reducible first | exact HB.out | apply below_alloc | apply pw_below_drewN | apply below_drew1 | refine below_set ?_ GE228.out | refine below_set ?_ GE229.out | refine below_set ?_ GE233.out | refine below_set ?_ GE235.out) | exact HB.out)) hb)
              clear HO_234002
              clear HO_234003
              clear BK228
              clear BK229
              clear BK233
              clear BK235
              clear HB
              have HO_234002 := n0_
              have HO_234003 := n1_
              have HO238 := n2_
              have BK228 := n3_
              have BK229 := n4_
              have BK233 := n5_
              have BK235 := n6_
              have HB := n7_
              clear n0_ n1_ n2_ n3_ n4_ n5_ n6_ n7_
              (try clear hb)
              (try clear hb2)
              (try clear hk)
              (try clear hi)
              (try clear ho0)
              obtain ⟨Ao31, co31, eo31⟩ := Kd.R_slice HO238.out
              (first | subst eo31 | (injection eo31 with f1_ f2_ f3_; have f4_ := f1_.symm; have f5_ := f3_.symm; clear f1_ f2_ f3_; subst f4_; subst f5_))
              refine hK.out _ _ ⟨(blk_cell BK233.out 0).trans rfl, (blk_cell BK233.out 1).trans rfl, (blk_cell BK233.out 2).trans rfl, (blk_cell BK233.out 3).trans rfl, (blk_cell BK235.out 0).trans rfl, (blk_cell BK235.out 1).trans rfl, (blk_cell BK235.out 2).trans rfl⟩ (fun hHeld => ?_)
              clear hK K
              refine norm_ (a' := ?_) ?_ ?_
              rotate_left
              · show Act.put _ (some 27) _ = _
                simp only [Act.put, List.setIfInBounds_toArray, List.set_cons_zero, List.set_cons_succ, i64_w, i32_w]
                rfl
              refine pure_ (i := 9) (N := some 30) (v := ?_) (a' := ?_) #[true, true, true, true, true, true, true, true, true, true, false, false, false, false] rfl rfl (any_of HT_.out (by kernel_rfl)) (fun _ _ _ h => h) (Or.inl ⟨by rfl, ?_⟩) ?_ ?_
              rotate_left
              · intro w'
                go_simp
                with_reducible rfl
              rotate_left
              · simp only [Act.put, List.setIfInBounds_toArray, List.set_cons_zero, List.set_cons_succ, i64_w, i32_w]
                rfl
              refine one_ (i := 10) (N := some 31) #[true, true, true, true, true, true, true, true, true, true, true, false, false, false] rfl rfl (one_of HT_.out (by kernel_rfl)) (by decide) (fun K hK => ?_)
              refine value_ (w1 := ?_) (v := ?_) (by rfl) rfl ?_ ?_
              rotate_left 2
              · go_simp
                constructor
                · rfl
                · rfl
              refine hK.out _ _ ⟨(blk_cell (blk_alloc BK233.out _) 0).trans rfl, (blk_cell (blk_alloc BK233.out _) 1).trans rfl, (blk_cell (blk_alloc BK233.out _) 2).trans rfl, (blk_cell (blk_alloc BK233.out _) 3).trans rfl, (blk_cell (blk_alloc BK235.out _) 0).trans rfl, (blk_cell (blk_alloc BK235.out _) 1).trans rfl, (blk_cell (blk_alloc BK235.out _) 2).trans rfl⟩ (fun hHeld => ?_)
              clear hK K
              refine norm_ (a' := ?_) ?_ ?_
              rotate_left
              · show Act.put _ (some 31) _ = _
                simp only [Act.put, List.setIfInBounds_toArray, List.set_cons_zero, List.set_cons_succ, i64_w, i32_w]
                rfl
              refine one_ (i := 11) (N := some 32) #[true, true, true, true, true, true, true, true, true, true, true, true, false, false] rfl rfl (one_of HT_.out (by kernel_rfl)) (by decide) (fun K hK => ?_)
              refine Kd.R_append_step k59 (w0 := w) w.heap.size (by rfl) (.tmp 22) (.tmp 31) 46 59 (.agg #[(.string ⟨#[]⟩), (.slice none 0 0), (.bool false)]) 48 rfl Tryz.underlying46 info59 rfl (by decide) (by omega) u234002 x234002_1 (⟨(rd_T36 l0_2 x17_1).f0, t236, (rd_T36 l0_2 x17_1).f2⟩ : S59) [.string ((rd_T36 l0_2 x17_1).f0), .slice Ao31 t236.length co31, .bool ((rd_T36 l0_2 x17_1).f2)] (fun k_ => some k_ ≠ (.slice Ao10 t230.length co10 : Value).ownBlock) (fun k_ => ((fun k_ => some k_ ≠ (.slice Ao10 t230.length co10 : Value).ownBlock)) k_ ∧ some k_ ≠ (u234002 : Value).ownBlock) rfl rfl ?aP (fun _ hk => hk) ?aF ?aO ?aB ?aS ?aL ?_
              (case aP => exact k59_mkM _ _ _ (⟨(rd_T36 l0_2 x17_1).f0, t236, (rd_T36 l0_2 x17_1).f2⟩ : S59) (Kd.R_mono (Kd.R_apart' (HO238.out) (Kd.R_typed HO_234002.out) (by decide)) (fun k_ hk => ⟨hk.1.2, hk.2⟩)))
              (case aB => exact (by repeat (first | (with_reducible first | exact HB.out | apply below_alloc | apply pw_below_drewN | apply below_drew1 | refine below_set ?_ GE228.out | refine below_set ?_ GE229.out | refine below_set ?_ GE233.out | refine below_set ?_ GE235.out) | exact HB.out)))
              (case aF => exact (fun k_ hk => Kd.fresh' (Kd.R_lt (by (with_reducible repeat (first | apply Kd.R_alloc | apply Kd.R_drewN | apply Kd.R_drew)); exact HO_234003.out)) k_ hk))
              (case aO => exact (by (with_reducible repeat (first | apply Kd.R_alloc | apply Kd.R_drewN | apply Kd.R_drew)); exact Kd.R_mono HO_234002.out (fun _ hk => hk.1)))
              (case aS => exact (below_size (by repeat (first | (with_reducible first | exact HB.out | apply below_alloc | apply pw_below_drewN | apply below_drew1 | refine below_set ?_ GE228.out | refine below_set ?_ GE229.out | refine below_set ?_ GE233.out | refine below_set ?_ GE235.out) | exact HB.out))))
              (case aL => have := LMc22.out; omega)
              intro v240 w32 ho hb hg hat
              rw [← Ny239.out] at ho
              have n0_ := Aside0.mk (Kd.R_over' (by (with_reducible repeat (first | apply Kd.R_alloc | apply Kd.R_drewN | apply Kd.R_drew)); exact HO_234003.out) (Kd.R_typed (by (with_reducible repeat (first | apply Kd.R_alloc | apply Kd.R_drewN | apply Kd.R_drew)); exact HO_234002.out)) (by decide) hg)
              have n1_ := Aside0.mk (blk_grown (g := gb228) (o := .cells #[.int .i64 a0_0, .string a0_1, .slice (some ad234) l0_2.length c0_2, .slice A0_3 l0_3.length c0_3] 25 (0, 0)) (by (with_reducible repeat (first | refine blk_drewN ?_ _ | refine blk_drew ?_ | refine blk_alloc ?_ _)); exact BK228.out) hg (Kd.R_ne HO_234002.out BK228.out (by decide)))
              have n2_ := Aside0.mk (blk_grown (g := gb229) (o := .cells #[.int .i64 0, .string (⟨#[]⟩ : ByteArray), .slice none 0 0, .slice none 0 0] 49 (0, 0)) (by (with_reducible repeat (first | refine blk_drewN ?_ _ | refine blk_drew ?_ | refine blk_alloc ?_ _)); exact BK229.out) hg (Kd.R_ne HO_234002.out BK229.out (by decide)))
              have n3_ := Aside0.mk (blk_grown (g := gb233) (o := .cells #[.int .i64 a0_0, .string a0_1, u234002, .slice Ao10 t230.length co10] 49 (0, 0)) (by (with_reducible repeat (first | refine blk_drewN ?_ _ | refine blk_drew ?_ | refine blk_alloc ?_ _)); exact BK233.out) hg (Kd.R_ne HO_234002.out BK233.out (by decide)))
              have n4_ := Aside0.mk (blk_grown (g := gb235) (o := .cells #[.string ((rd_T36 l0_2 x17_1).f0), .slice A234_1 ((rd_T36 l0_2 x17_1).f1).length c234_1, .bool ((rd_T36 l0_2 x17_1).f2)] 36 (0, 0)) (by (with_reducible repeat (first | refine blk_drewN ?_ _ | refine blk_drew ?_ | refine blk_alloc ?_ _)); exact BK235.out) hg (Kd.R_ne HO_234002.out BK235.out (by decide)))
              have n5_ := Aside0.mk (hb)
              have n6_ := Aside0.mk (ho)
              clear HO_234003
              clear BK228
              clear BK229
              clear BK233
              clear BK235
              clear HB
              clear HO_234002
              clear HO238
              have HO_234003 := n0_
              have BK228 := n1_
              have BK229 := n2_
              have BK233 := n3_
              have BK235 := n4_
              have HB := n5_
              have HO241 := n6_
              clear n0_ n1_ n2_ n3_ n4_ n5_ n6_
              clear ho hb hg hat
              obtain ⟨Ao33, co33, eo33⟩ := Kd.R_slice HO241.out
              (first | subst eo33 | (injection eo33 with f1_ f2_ f3_; have f4_ := f1_.symm; have f5_ := f3_.symm; clear f1_ f2_ f3_; subst f4_; subst f5_))
              refine hK.out _ _ ⟨(blk_cell BK233.out 0).trans rfl, (blk_cell BK233.out 1).trans rfl, (blk_cell BK233.out 2).trans rfl, (blk_cell BK233.out 3).trans rfl, (blk_cell BK235.out 0).trans rfl, (blk_cell BK235.out 1).trans rfl, (blk_cell BK235.out 2).trans rfl⟩ (fun hHeld => ?_)
              clear hK K
              refine norm_ (a' := ?_) ?_ ?_
              rotate_left
              · show Act.put _ (some 32) _ = _
                simp only [Act.put, List.setIfInBounds_toArray, List.set_cons_zero, List.set_cons_succ, i64_w, i32_w]
                rfl
              refine pure_ (i := 12) (N := some 33) (v := ?_) (a' := ?_) #[true, true, true, true, true, true, true, true, true, true, true, true, true, false] rfl rfl (any_of HT_.out (by kernel_rfl)) (fun _ _ _ h => h) (Or.inl ⟨by rfl, ?_⟩) ?_ ?_
              rotate_left
              · intro w'
                go_simp
                with_reducible rfl
              rotate_left
              · simp only [Act.put, List.setIfInBounds_toArray, List.set_cons_zero, List.set_cons_succ, i64_w, i32_w]
                rfl
              refine last_ (i := 13) (N := none) #[true, true, true, true, true, true, true, true, true, true, true, true, true, true] rfl rfl (one_of HT_.out (by kernel_rfl)) (by decide) (fun K hK => ?_)
              have hs34 : w32.cell? ⟨gb233, 2, none⟩ = some (u234002) := (blk_cell BK233.out 2).trans rfl
              have hfs34 := blk_frozen BK233.out 2
              have hns34_0 := NB228_233.out
              have hns34_1 := NB229_233.out
              have hns34_3 := NB235_233.out
              have hms34_0 := NB233_228.out
              have hms34_1 := NB233_229.out
              have hms34_3 := NB233_235.out
              refine skip_ (w1 := ?_) (by rfl) rfl ?_ ?_
              rotate_left
              · go_simp
                rfl
              refine hK.out _ _ ?_
              clear hK K
              refine done_ (done_of HT_.out (by kernel_rfl)) ?_
              try go_wp2
              go_roundg k1
              case measure => have := HK1.out; omega
              case rel => exact ⟨(wrap64 (x17_1 + 1)), (y239), (.slice Ao33 y239.length co33), (by first | rfl | (simp; done) | (simp [*]; done)), H', ⟨by have := HK1.out; omega⟩, ⟨by (with_reducible repeat (first | apply Kd.R_alloc | apply Kd.R_drewN | apply Kd.R_drew)); exact Kd.R_mono (Kd.R_far (p := ⟨gb233, 2, none⟩) (Kd.R_types HO241.out BK233.out (by decide)) (fun _ hk => hk.2) (.slice Ao33 y239.length co33)) (fun _ hk => hk.1)⟩, ⟨by (with_reducible repeat (first | apply Kd.R_alloc | apply Kd.R_drewN | apply Kd.R_drew)); exact Kd.R_mono (Kd.R_far (p := ⟨gb233, 2, none⟩) (Kd.R_types HO_234003.out BK233.out (by decide)) (fun _ hk => hk.2) (.slice Ao33 y239.length co33)) (fun _ hk => trivial)⟩, ⟨by (with_reducible repeat (first | refine blk_drewN ?_ _ | refine blk_drew ?_ | refine blk_alloc ?_ _)); refine blk_far ?_ NB228_233.out _; (with_reducible repeat (first | refine blk_drewN ?_ _ | refine blk_drew ?_ | refine blk_alloc ?_ _)); exact BK228.out⟩, ⟨by (with_reducible repeat (first | refine blk_drewN ?_ _ | refine blk_drew ?_ | refine blk_alloc ?_ _)); refine blk_far ?_ NB229_233.out _; (with_reducible repeat (first | refine blk_drewN ?_ _ | refine blk_drew ?_ | refine blk_alloc ?_ _)); exact BK229.out⟩, ⟨by (with_reducible repeat (first | refine blk_drewN ?_ _ | refine blk_drew ?_ | refine blk_alloc ?_ _)); refine blk_put (cs := #[.int .i64 a0_0, .string a0_1, u234002, .slice Ao10 t230.length co10]) ?_ 2 _ rfl; (with_reducible repeat (first | refine blk_drewN ?_ _ | refine blk_drew ?_ | refine blk_alloc ?_ _)); exact BK233.out⟩, ⟨by repeat (first | (with_reducible first | exact HB.out | apply below_alloc | apply pw_below_drewN | apply below_drew1 | refine below_set ?_ GE228.out | refine below_set ?_ GE229.out | refine below_set ?_ GE233.out | refine below_set ?_ GE235.out) | exact HB.out)⟩⟩
            · rw [if_neg c22] at H
              exact absurd H (by simp)
          · rw [if_neg c20] at H
            exact absurd H (by simp)
        · rw [if_neg c19] at H
          exact absurd H (by simp)
      · rw [if_neg c18] at H
        have c18b0 : decide (x17_1 < (l0_2.length : Int)) = false := decide_eq_false c18
        clear c18
        simp only [Option.some.injEq, Prod.mk.injEq] at H
        obtain ⟨rfl, rfl, rfl, rfl⟩ := H
        have hnb35 := NB233_228.out
        have hnc35 := NB228_233.out
        have hnb36 := NB233_229.out
        have hnc36 := NB229_233.out
        have hcz37_0 : wr.cell? ⟨gb233, 0, none⟩ = some (.int .i64 a0_0) := (blk_cell BK233.out 0).trans rfl
        have hcz37_1 : wr.cell? ⟨gb233, 1, none⟩ = some (.string a0_1) := (blk_cell BK233.out 1).trans rfl
        have hcz37_2 : wr.cell? ⟨gb233, 2, none⟩ = some (u234002) := (blk_cell BK233.out 2).trans rfl
        have hcz37_3 : wr.cell? ⟨gb233, 3, none⟩ = some (.slice Ao10 t230.length co10) := (blk_cell BK233.out 3).trans rfl
        have hfz37_0 := blk_frozen BK233.out 0
        have hfz37_1 := blk_frozen BK233.out 1
        have hfz37_2 := blk_frozen BK233.out 2
        have hfz37_3 := blk_frozen BK233.out 3
        have hnb38 := NB229_228.out
        have hnc38 := NB228_229.out
        have hcz39_0 : wr.cell? ⟨gb229, 0, none⟩ = some (.int .i64 0) := (blk_cell BK229.out 0).trans rfl
        have hcz39_1 : wr.cell? ⟨gb229, 1, none⟩ = some (.string (⟨#[]⟩ : ByteArray)) := (blk_cell BK229.out 1).trans rfl
        have hcz39_2 : wr.cell? ⟨gb229, 2, none⟩ = some (.slice none 0 0) := (blk_cell BK229.out 2).trans rfl
        have hcz39_3 : wr.cell? ⟨gb229, 3, none⟩ = some (.slice none 0 0) := (blk_cell BK229.out 3).trans rfl
        have hfz39_0 := blk_frozen BK229.out 0
        have hfz39_1 := blk_frozen BK229.out 1
        have hfz39_2 := blk_frozen BK229.out 2
        have hfz39_3 := blk_frozen BK229.out 3
        obtain ⟨Ao40, co40, eo40⟩ := Kd.R_slice HO_234002.out
        subst eo40
        go_wp2
        refine bodyPost_ret (results_cell_row rfl _ _ gb229 49 #[.int .i64 a0_0, .string a0_1, .slice Ao40 x234002_1.length co40, .slice Ao10 t230.length co10] (0, 0) _ rfl (by (with_reducible repeat (first | refine blk_drewN ?_ _ | refine blk_drew ?_ | refine blk_alloc ?_ _)); refine blk_put (cs := #[.int .i64 a0_0, .string a0_1, .slice Ao40 x234002_1.length co40, .slice none 0 0]) ?_ 3 _ rfl; (with_reducible repeat (first | refine blk_drewN ?_ _ | refine blk_drew ?_ | refine blk_alloc ?_ _)); refine blk_put (cs := #[.int .i64 a0_0, .string a0_1, .slice none 0 0, .slice none 0 0]) ?_ 2 _ rfl; (with_reducible repeat (first | refine blk_drewN ?_ _ | refine blk_drew ?_ | refine blk_alloc ?_ _)); refine blk_put (cs := #[.int .i64 a0_0, .string (⟨#[]⟩ : ByteArray), .slice none 0 0, .slice none 0 0]) ?_ 1 _ rfl; (with_reducible repeat (first | refine blk_drewN ?_ _ | refine blk_drew ?_ | refine blk_alloc ?_ _)); refine blk_put (cs := #[.int .i64 0, .string (⟨#[]⟩ : ByteArray), .slice none 0 0, .slice none 0 0]) ?_ 0 _ rfl; (with_reducible repeat (first | refine blk_drewN ?_ _ | refine blk_drew ?_ | refine blk_alloc ?_ _)); exact BK229.out) Tryz.underlying49 rfl (by kernel_rfl)) rfl ?_
        exact ⟨_, _, by first | rfl | (simp [errW_none, errW_some] <;> rfl) | (simp [*, errW_none, errW_some] <;> rfl), by (with_reducible repeat (first | apply Kd.R_alloc | apply Kd.R_drewN | apply Kd.R_drew)); exact Kd.R_mono (Kd.R_far (p := ⟨gb229, 3, none⟩) (Kd.R_far (p := ⟨gb229, 2, none⟩) (Kd.R_far (p := ⟨gb229, 1, none⟩) (Kd.R_far (p := ⟨gb229, 0, none⟩) (Kd.R_types HO_234002.out BK229.out (by decide)) (fun _ hk => hk.2) (.int .i64 a0_0)) (fun _ hk => hk.2) (.string a0_1)) (fun _ hk => hk.2) (.slice Ao40 x234002_1.length co40)) (fun _ hk => hk.2) (.slice Ao10 t230.length co10)) (fun _ hk => hk.1), by (with_reducible repeat (first | apply Kd.R_alloc | apply Kd.R_drewN | apply Kd.R_drew)); exact Kd.R_mono (Kd.R_far (p := ⟨gb229, 3, none⟩) (Kd.R_far (p := ⟨gb229, 2, none⟩) (Kd.R_far (p := ⟨gb229, 1, none⟩) (Kd.R_far (p := ⟨gb229, 0, none⟩) (Kd.R_types HO_234003.out BK229.out (by decide)) (fun _ hk => hk.2) (.int .i64 a0_0)) (fun _ hk => hk.2) (.string a0_1)) (fun _ hk => hk.2) (.slice Ao40 x234002_1.length co40)) (fun _ hk => hk.2) (.slice Ao10 t230.length co10)) (fun _ hk => trivial), by repeat (first | (with_reducible first | exact HB.out | apply below_alloc | apply pw_below_drewN | apply below_drew1 | refine below_set ?_ GE228.out | refine below_set ?_ GE229.out | refine below_set ?_ GE233.out) | exact HB.out)⟩

-- NOT PRINTED: function 8 (impl_JSONLine)


end Go.Proofs.YtcllhgajdcemiaaGreatDoor.PFnJSONBack
