/-
  THE LAW FnJSONMore: true at every log and every key and value whose trees are not too large.
-/
import Derived.Test.YtcllhgajdcemiaaGreatDoorLa
namespace Go.Proofs.YtcllhgajdcemiaaGreatDoor.jb
open Go.RowKit Go.Proofs.YtcllhgajdcemiaaGreatDoorW.PrintWords Go.Proofs.YtcllhgajdcemiaaGreatDoorW.PrintLast Go.Proofs.YtcllhgajdcemiaaGreatDoorW.PrintMore
open Go.Proofs.YtcllhgajdcemiaaGreatDoor.PFnJSONBack
open Go.Proofs.YtcllhgajdcemiaaGreatDoor.wk (Blk lvl works_ok)
set_option linter.unusedVariables false
set_option linter.unusedSimpArgs false
theorem ext_list (b : ByteArray) (i j : Nat) : (b.extract i j).data.toList = (b.data.toList.take j).drop i := by
  rw [ByteArray.data_extract, Array.toList_extract, List.extract_eq_take_drop, List.drop_take]
theorem ba_eq {a b : ByteArray} (h : a.data.toList = b.data.toList) : a = b := by
  cases a; cases b
  simp only [ByteArray.mk.injEq]
  exact Array.toList_inj.1 h
theorem begins_true (b p : ByteArray) (q : List UInt8) (h : b.data.toList = p.data.toList ++ q) : laws_begins.f b p = some true := by
  have hs : b.size = p.size + q.length := by rw [Lib.size_eq, Lib.size_eq p, h, List.length_append]
  have he : b.extract 0 p.size = p := by
    apply ba_eq
    rw [ext_list, h, List.drop_zero, Lib.size_eq p, List.take_left']
    rfl
  unfold laws_begins.f
  rw [if_pos (by omega), if_pos (by omega), if_pos (by omega)]
  rw [Int.toNat_natCast, he]
  simp
theorem line_head {A : ByteArray} {R : List UInt8} (hA : A.data.toList = [123] ++ R ++ [125, 10]) : (A.extract 0 (A.size - 2) ++ ⟨#[44]⟩ : ByteArray).data.toList = [123] ++ R ++ [44] := by
  have e : (⟨#[44]⟩ : ByteArray).data.toList = [44] := rfl
  rw [ByteArray.data_append, Array.toList_append, ext_list, e, Lib.size_eq, hA, List.drop_zero, List.take_left']
  simp
theorem line_tail {A B : ByteArray} {R T : List UInt8} (hA : A.data.toList = [123] ++ R ++ [125, 10]) (hB : B.data.toList = [123] ++ R ++ [44] ++ T) : ((⟨#[123]⟩ : ByteArray) ++ B.extract (A.size - 1) B.size).data.toList = [123] ++ T := by
  have e : (⟨#[123]⟩ : ByteArray).data.toList = [123] := rfl
  have hs : A.size - 1 = ([123] ++ R ++ [44]).length := by rw [Lib.size_eq, hA]; simp
  rw [ByteArray.data_append, Array.toList_append, ext_list, e, hs, Lib.size_eq B, List.take_length, hB, List.drop_left']
  rfl
theorem noGroups_take (steps : List S36) (i : Nat) (hi : i < steps.length) (h : noGroups (steps.take i) = true) (hs : (!(steps[i].f2 && decide (0 < steps[i].f0.size))) = true) : noGroups (steps.take (i + 1)) = true := by
  have e1 : steps.take (i + 1) = steps.take i ++ [steps[i]] := (List.take_append_getElem hi).symm
  unfold noGroups at *
  rw [e1, List.all_append, h]
  simp only [List.all_cons, List.all_nil, hs, Bool.and_self]
set_option maxRecDepth 100000 in
set_option maxHeartbeats 4000000 in
theorem law4 (w : World) (hT : Tabs w) (hSf : Go.Proofs.YtcllhgajdcemiaaGreatDoor.wk.Safe w) (hB6 : 6 ≤ w.heap.size) (n : Int) (msg key value : ByteArray) (steps : List S36) (r : List S34) (SA AA : Option Addr) (sc ac : Nat)
    (hS : Kd.C k36 w SA steps.length steps) (hsc : steps.length ≤ sc) (hA : Kd.C k34 w AA r.length r) (hac : r.length ≤ ac) (hm : msg.size < 2 ^ 30) (hw : wtS steps + wtL r + key.size + value.size < 2 ^ 30) :
    Calls Tryz.prog 4 #[.agg #[.int .i64 n, .string msg, .slice SA steps.length sc, .slice AA r.length ac], .string key, .string value] w fun e w' => e = .returned (.bool true) ∧ Below w.heap.size w w' := by
  have hba : Below w.heap.size w (w.alloc (.cells #[.int .i64 n, .string msg, .slice SA steps.length sc, .slice AA r.length ac] 25)) := (Below.refl _ _).alloc (Nat.le_refl _) _
  have hX := Blk.new w 25 #[.int .i64 n, .string msg, .slice SA steps.length sc, .slice AA r.length ac]
  have hl1 := wtS_length steps
  have hl2 := wtL_length r
  have hin := fun w1 (hb : Below w.heap.size w w1) => And.intro (Kd.C_below hS hb) (Kd.C_below hA hb)
  have k5 := Lib.hid (fun w1 (hb : Below w.heap.size w w1) => zz5 w1 n msg steps r SA AA sc ac (hin w1 hb).1 hsc (hin w1 hb).2 hac (by omega) (by omega) (by omega))
  have k6 := Lib.hid (fun w1 (hb : Below w.heap.size w w1) => fits6 w1 n msg steps r SA AA sc ac (hin w1 hb).1 hsc (hin w1 hb).2 hac (by omega))
  have k8 := Lib.hid (fun w1 (hb : Below w.heap.size w w1) (h0 : -4 ≤ n) (h1 : n ≤ 8) => jsonLine8 w1 (hT.below hb hB6) (Nat.le_trans hB6 hb.size) n h0 h1 msg steps r SA AA sc ac (hin w1 hb).1 hsc (hin w1 hb).2 hac (by omega) (by omega) (by omega))
  have k11 := Lib.hid (fun w1 (hb : Below w.heap.size w w1) => works_ok w1 (hSf.below hb (by omega)) (by have := hb.size; omega))
  have HBa := Lib.hid (And.intro hba hX)
  have HN := Lib.hid (And.intro hm hw)
  have d1 : decide ((2147483647 : Int) < (key.size : Int)) = false := decide_eq_false (by omega)
  have d2 : decide ((2147483647 : Int) < (value.size : Int)) = false := decide_eq_false (by omega)
  have HI := Lib.hid (And.intro hT (And.intro hB6 (And.intro hS (And.intro hsc (And.intro hA hac)))))
  clear hT hSf hB6 hS hsc hA hac hm hw hl1 hl2 hin hba hX
  go_enter Tryz.func4, Tryz.ntmps4
  go_wp2_with fail
  refine (k5.out _ HBa.out.1).mono ?_
  rintro e w1 ⟨rfl, hb1⟩
  have hX1 := HBa.out.2.below hb1 (by simp)
  have hB1 := HBa.out.1.trans (hb1.mono HBa.out.1.size)
  have a0 := hX1.cell 0
  have a1 := hX1.cell 1
  have a2 := hX1.cell 2
  have a3 := hX1.cell 3
  have hlt1 := hX1.lt
  have hbm : Below w1.heap.size w1 (w1.alloc (.cells #[.int .i64 n, .string msg, .slice SA steps.length sc, .slice AA r.length ac] 25)) := (Below.refl _ _).alloc (Nat.le_refl _) _
  have hM := Blk.new w1 25 #[.int .i64 n, .string msg, .slice SA steps.length sc, .slice AA r.length ac]
  have hXm := hX1.below hbm hlt1
  have hF1 : Kd.F k34 (w1.alloc (.cells #[.int .i64 n, .string msg, .slice SA steps.length sc, .slice AA r.length ac] 25)) (fun k => k < w1.heap.size) AA r.length r := Kd.F_below (Kd.C_F heap34 (Kd.C_below HI.out.2.2.2.2.1 hB1)) hbm
  have hlen : (r.length + 1) * 64 ≤ 140737488355328 := by have h1 := wtL_length r; have h2 := HN.out.2; omega
  have hsz : (w1.alloc (.cells #[.int .i64 n, .string msg, .slice SA steps.length sc, .slice AA r.length ac] 25)).heap.size = w1.heap.size + 1 := by simp
  have H1 := Lib.hid (And.intro hB1 (And.intro hXm (And.intro hM (And.intro hF1 (And.intro hlen (And.intro hbm hsz))))))
  have hne : ¬ (w1.heap.size = w.heap.size) := by omega
  have hne' : ¬ (w.heap.size = w1.heap.size) := by omega
  clear hX1 hB1 hb1 hXm hM hF1 hlen hbm hsz
  go_wp2_with (first
    | (at_builtin; refine Kd.N_append_rows k34 (w0 := w1.alloc (.cells #[.int .i64 n, .string msg, .slice SA steps.length sc, .slice AA r.length ac] 25)) (w1.heap.size + 1) rfl (.const (.slice none 0 0)) (.tmp 29) 23 34 (.agg #[(.string ⟨#[]⟩), (.string ⟨#[]⟩), (.bool false), (.slice none 0 0)]) 64 rfl Tryz.underlying23 info34 rfl (by decide) (by omega) (.slice none 0 0) [] r AA r.length ac (fun k => k ≠ w1.heap.size) (fun k => k < w1.heap.size) rfl rfl (Kd.N_nil _ _ _ _ _) H1.out.2.2.2.1 (fun k hk => ⟨Nat.ne_of_lt hk, by simp [Value.ownBlock]⟩) (fun k hk => by have := H1.out.2.2.2.2.2.2; omega) (Below.refl _ _) (by rw [H1.out.2.2.2.2.2.2]; exact Nat.le_refl _) (by have := H1.out.2.2.2.2.1; simp; omega) ?_
       intro v3 w3 hN3 hB3 hg3 hat3
       have hN3' : Kd.N k34 34 w3 (w1.heap.size + 1) (fun k => k ≠ w1.heap.size) v3 r := by simpa using hN3
       have H3 := Lib.hid (And.intro hN3' hB3)
       clear hN3 hB3 hg3 hat3 hN3')
    | (at_builtin; refine Kd.N_append k34 (w0 := w1.alloc (.cells #[.int .i64 n, .string msg, .slice SA steps.length sc, .slice AA r.length ac] 25)) (W := w3) (w1.heap.size + 1) rfl (.tmp 30) (.tmp 34) 23 34 (.agg #[(.string ⟨#[]⟩), (.string ⟨#[]⟩), (.bool false), (.slice none 0 0)]) 64 rfl Tryz.underlying23 info34 rfl (by decide) (by omega) v3 r (⟨key, value, false, []⟩ : S34) [.string key, .string value, .bool false, .slice none 0 0] (fun k => k ≠ w1.heap.size) (fun _ => False) rfl rfl (k34_mkF _ _ (⟨key, value, false, []⟩ : S34) (Nat.le_refl _) (Kd.F_nil _ _ _)) (fun k hk => hk.elim) (fun k hk => by have := H1.out.2.2.2.2.2.2; have := H3.out.2.size; omega) H3.out.1 H3.out.2 (by have := H1.out.2.2.2.2.2.2; have := H3.out.2.size; omega) H1.out.2.2.2.2.1 ?_
       intro v5 w5 hN5 hB5 hg5 hat5
       obtain ⟨A5, c5, rfl⟩ := Kd.N_slice hN5
       have hM5 := H1.out.2.2.1.below hB5 (by omega)
       have hX5 := H1.out.2.1.below hB5 (by omega)
       have m3 := hM5.cell 3
       have mf3 := hM5.frozen 3
       have l2 := hX5.cell 2
       have H5 := Lib.hid (And.intro hN5 (And.intro hB5 (And.intro hM5 hX5)))
       clear hN5 hB5 hg5 hat5 hM5 hX5))
  obtain ⟨r', hr'⟩ : ∃ r' : List S34, r' = r ++ [⟨key, value, false, []⟩] := ⟨_, rfl⟩
  have hrl : r'.length = r.length + 1 := by rw [hr']; simp
  have hrw : wtL r' = wtL r + key.size + value.size + 20 := by rw [hr', wtL_append]; simp [wtL, wtA]; omega
  have hN5 := H5.out.1
  rw [← hr'] at hN5
  rw [← hrl]
  have hNW : Kd.N k34 34 (w5.setCell ⟨w1.heap.size, 3, none⟩ (.slice A5 r'.length c5)) (w1.heap.size + 1) (fun k => k ≠ w1.heap.size) (.slice A5 r'.length c5) r' := Kd.N_far hN5 (fun k hk => hk) _
  obtain ⟨_, hc5, hC5⟩ := Kd.N_reads' hNW
  have hMW : Blk (w5.setCell ⟨w1.heap.size, 3, none⟩ (.slice A5 r'.length c5)) w1.heap.size 25 #[.int .i64 n, .string msg, .slice SA steps.length sc, .slice A5 r'.length c5] := H5.out.2.2.1.set_ 3 (.slice A5 r'.length c5)
  have hXW := H5.out.2.2.2.far (p := ⟨w1.heap.size, 3, none⟩) hne' (.slice A5 r'.length c5)
  have hb15 : Below w1.heap.size w1 (w5.setCell ⟨w1.heap.size, 3, none⟩ (.slice A5 r'.length c5)) := (H1.out.2.2.2.2.2.1.trans (H5.out.2.1.mono (Nat.le_succ _))).setCell (p := ⟨w1.heap.size, 3, none⟩) (Nat.le_refl _) _
  have hbW := H1.out.1.trans (hb15.mono H1.out.1.size)
  have hltW : w1.heap.size < (w5.setCell ⟨w1.heap.size, 3, none⟩ (.slice A5 r'.length c5)).heap.size := hMW.lt
  generalize w5.setCell ⟨w1.heap.size, 3, none⟩ (.slice A5 r'.length c5) = W at *
  have HW := Lib.hid (And.intro hbW (And.intro hMW (And.intro hXW (And.intro hc5 (And.intro hC5 hltW)))))
  have HR := Lib.hid (And.intro hr' (And.intro hrl hrw))
  clear hN5 hNW hMW hXW hb15 hbW hltW hc5 hC5 m3 mf3 l2 H5 H3 hr' hrl hrw a0 a1 a2 a3
  generalize w1.heap.size = mb at *
  have hsteps := HI.out.2.2.1
  have k6m := Lib.hid (fun w' (hb : Below W.heap.size W w') => fits6 w' n msg steps r' SA A5 sc c5 (Kd.C_below hsteps (HW.out.1.trans (hb.mono HW.out.1.size))) HI.out.2.2.2.1 (Kd.C_below HW.out.2.2.2.2.1 hb) HW.out.2.2.2.1 (by have h1 := HN.out.2; have h2 := HR.out.2.2; omega))
  have k8m := Lib.hid (fun w' (hb : Below W.heap.size W w') (h0 : -4 ≤ n) (h1 : n ≤ 8) => jsonLine8 w' (HI.out.1.below (HW.out.1.trans (hb.mono HW.out.1.size)) HI.out.2.1) (Nat.le_trans HI.out.2.1 (HW.out.1.trans (hb.mono HW.out.1.size)).size) n h0 h1 msg steps r' SA A5 sc c5 (Kd.C_below hsteps (HW.out.1.trans (hb.mono HW.out.1.size))) HI.out.2.2.2.1 (Kd.C_below HW.out.2.2.2.2.1 hb) HW.out.2.2.2.1 (by have := HN.out.1; omega) (by have := HN.out.2; omega) (by have h1 := HN.out.2; have h2 := HR.out.2.2; omega))
  have HS := Lib.hid (And.intro hsteps HI.out.2.2.2.1)
  clear hsteps HI H1 HBa k5
  have hlenS : steps.length ≤ 1099511627776 := by have h1 := wtS_length steps; have h2 := HN.out.2; omega
  go_loopg [40] (steps.length) (fun j v40 wr => ∃ i : Nat, v40 = .int .i64 i ∧ Aside (i ≤ steps.length ∧ j = steps.length - i ∧ noGroups (steps.take i) = true ∧ Below W.heap.size W wr))
  case atStart => exact ⟨0, rfl, Nat.zero_le _, rfl, rfl, Below.refl _ _⟩
  case round =>
    obtain ⟨i, rfl, HI⟩ := hrel
    by_cases hi : i < steps.length
    · have hi0 : decide ((i : Int) < (steps.length : Int)) = true := decide_eq_true (by omega)
      have hBw := HW.out.1.trans (HI.out.2.2.2.mono HW.out.1.size)
      obtain ⟨ad, A1, c1, e, hx0, hx1, hx2, hl1, hC1⟩ := at36 (Kd.C_below HS.out.1 hBw) i hi rfl
      cases e
      have hng := noGroups_take steps i hi HI.out.2.2.1
      generalize steps[i] = s at *
      obtain ⟨key1, l1, f1⟩ := s
      simp only at hx0 hx1 hx2 hng
      have hba : Below W.heap.size W (wr.alloc (.cells #[.string key1, .slice A1 l1.length c1, .bool f1] 36)) := HI.out.2.2.2.alloc HI.out.2.2.2.size _
      have HG := Lib.hid (And.intro hng (And.intro hba (And.intro HI.out.2.1 (hBw.trans (((Below.refl wr.heap.size wr).alloc (Nat.le_refl _) _).mono hBw.size : Below w.heap.size wr (wr.alloc (.cells #[.string key1, .slice A1 l1.length c1, .bool f1] 36)))))))
      clear hng hba hBw HI hC1 hl1
      cases f1 with
      | false =>
        go_wp2_with fail
        go_roundg (steps.length - (i + 1))
        case measure => have := HG.out.2.2.1; omega
        case rel =>
          refine ⟨i + 1, ?_, hi, rfl, HG.out.1 rfl, HG.out.2.1⟩
          first
          | (simp; done)
          | (rw [IntWalk.wrap64_in _ ⟨by omega, by omega⟩]; simp)
      | true =>
        by_cases hk : key1.size = 0
        · have hk0 : key1.toList.isEmpty = true := List.isEmpty_iff.2 ((size0 key1).2 hk)
          go_wp2_with fail
          go_roundg (steps.length - (i + 1))
          case measure => have := HG.out.2.2.1; omega
          case rel =>
            refine ⟨i + 1, ?_, hi, rfl, HG.out.1 (by simp [hk]), HG.out.2.1⟩
            first
            | (simp; done)
            | (rw [IntWalk.wrap64_in _ ⟨by omega, by omega⟩]; simp)
        · have hk0 : key1.toList.isEmpty = false := by
            cases h : key1.toList.isEmpty with
            | false => rfl
            | true => exact absurd ((size0 key1).1 (List.isEmpty_iff.1 h)) hk
          go_wp2_with fail
          go_ret
          exact ⟨rfl, HG.out.2.2.2⟩
    · have hi0 : decide ((i : Int) < (steps.length : Int)) = false := decide_eq_false (by omega)
      have hil : i = steps.length := by have := HI.out.1; omega
      subst hil
      have hng := HI.out.2.2.1
      rw [List.take_length] at hng
      have hnm := nested_more key value r steps hng
      rw [← HR.out.1] at hnm
      have hXl := HW.out.2.2.1.below HI.out.2.2.2 HW.out.2.2.1.lt
      have l0 := hXl.cell 0
      have l1 := hXl.cell 1
      have l2 := hXl.cell 2
      have l3 := hXl.cell 3
      have HI2 := Lib.hid (And.intro HI.out.2.2.2 hnm)
      clear hng hnm hXl HI
      go_wp2_with fail
      refine (k6.out _ (HW.out.1.trans (HI2.out.1.mono HW.out.1.size))).mono ?_
      rintro e w6 ⟨rfl, hb6⟩
      have hB6w : Below W.heap.size W w6 := HI2.out.1.trans (hb6.mono HI2.out.1.size)
      have hMl := HW.out.2.1.below hB6w HW.out.2.1.lt
      have m0 := hMl.cell 0
      have m1 := hMl.cell 1
      have m2 := hMl.cell 2
      have m3 := hMl.cell 3
      have H6 := Lib.hid hB6w
      clear hb6 hB6w hMl l0 l1 l2 l3
      cases hf : fitsB n (nestedL steps r) with
      | false =>
        go_wp2_with fail
        go_ret
        exact ⟨rfl, HW.out.1.trans (H6.out.mono HW.out.1.size)⟩
      | true =>
        have hn : -4 ≤ n ∧ n ≤ 8 := by
          unfold fitsB inR at hf
          simp only [Bool.and_eq_true, decide_eq_true_eq] at hf
          exact hf.1.1
        have HF := Lib.hid hn
        clear hn
        go_wp2_with fail
        refine (k6m.out _ H6.out).mono ?_
        rintro e w7 ⟨rfl, hb7⟩
        have hB7 : Below W.heap.size W w7 := H6.out.trans (hb7.mono H6.out.size)
        have H7 := Lib.hid hB7
        clear hb7 hB7 m0 m1 m2 m3
        cases hf2 : fitsB n (nestedL steps r') with
        | false =>
          go_wp2_with fail
          go_ret
          exact ⟨rfl, HW.out.1.trans (H7.out.mono HW.out.1.size)⟩
        | true =>
          have kA := k8.out
          have kB := k8m.out
          rw [line_is] at kA kB
          rw [HI2.out.2, shown_more, ren_more] at kB
          obtain ⟨LA, hLA⟩ : ∃ LA : ByteArray, LA = ⟨([123] ++ renL ⟨#[]⟩ (membs (lvl n) msg (shownL (nestedL steps r))) ++ [125, 10]).toArray⟩ := ⟨_, rfl⟩
          obtain ⟨LB, hLB⟩ : ∃ LB : ByteArray, LB = ⟨([123] ++ (renL ⟨#[]⟩ (membs (lvl n) msg (shownL (nestedL steps r))) ++ [44] ++ renL ⟨#[]⟩ [⟨key, value, false, []⟩]) ++ [125, 10]).toArray⟩ := ⟨_, rfl⟩
          rw [← hLA] at kA
          rw [← hLB] at kB
          have hl := line_len n HF.out.1 HF.out.2 msg (nestedL steps r) (by have := HN.out.1; omega) (by have h1 := wt_nested steps r; have h2 := HN.out.2; omega)
          have hA : LA.data.toList = [123] ++ renL ⟨#[]⟩ (membs (lvl n) msg (shownL (nestedL steps r))) ++ [125, 10] := by rw [hLA]
          have hB : LB.data.toList = [123] ++ renL ⟨#[]⟩ (membs (lvl n) msg (shownL (nestedL steps r))) ++ [44] ++ (renL ⟨#[]⟩ [⟨key, value, false, []⟩] ++ [125, 10]) := by rw [hLB]; simp
          have hA2 : LA.size ≤ 1099511627776 := by rw [Lib.size_eq, hA]; exact hl
          have HL := Lib.hid (And.intro hA hB)
          have hA3 : 3 ≤ LA.size := by rw [Lib.size_eq, hA]; simp
          have hB3 : 3 ≤ LB.size := by rw [Lib.size_eq, hB]; simp; omega
          have hAB : LA.size ≤ LB.size := by
            rw [Lib.size_eq, Lib.size_eq LB, hA, hB]
            simp only [List.length_append, List.length_cons, List.length_nil]
            omega
          have hB2 : LB.size ≤ 2199023255552 := by
            have h1 := renL_len [⟨key, value, false, []⟩] ⟨#[]⟩ (Nat.zero_le _)
            have h2 := HN.out.2
            simp only [wtL, wtA] at h1
            rw [Lib.size_eq, hB]
            simp only [List.length_append, List.length_cons, List.length_nil] at hl ⊢
            omega
          have kA' := Lib.hid (fun w' (hb : Below W.heap.size W w') => kA w' (HW.out.1.trans (hb.mono HW.out.1.size)) HF.out.1 HF.out.2)
          have kB' := Lib.hid (fun w' (hb : Below W.heap.size W w') => kB w' hb HF.out.1 HF.out.2)
          have hX7 := HW.out.2.2.1.below H7.out HW.out.2.2.1.lt
          have hM7 := HW.out.2.1.below H7.out HW.out.2.1.lt
          have l0 := hX7.cell 0
          have l1 := hX7.cell 1
          have l2 := hX7.cell 2
          have l3 := hX7.cell 3
          have m0 := hM7.cell 0
          have m1 := hM7.cell 1
          have m2 := hM7.cell 2
          have m3 := hM7.cell 3
          clear kA kB hLA hLB hl hA hB hX7 hM7 k6 k6m k8 k8m
          go_wp2_with fail
          go_region_held3 (fun w' => w'.cell? ⟨w.heap.size, 0, none⟩ = some (.int .i64 n) ∧ w'.cell? ⟨w.heap.size, 1, none⟩ = some (.string msg) ∧ w'.cell? ⟨w.heap.size, 2, none⟩ = some (.slice SA steps.length sc) ∧ w'.cell? ⟨w.heap.size, 3, none⟩ = some (.slice AA r.length ac) ∧ w'.cell? ⟨mb, 0, none⟩ = some (.int .i64 n) ∧ w'.cell? ⟨mb, 1, none⟩ = some (.string msg) ∧ w'.cell? ⟨mb, 2, none⟩ = some (.slice SA steps.length sc) ∧ w'.cell? ⟨mb, 3, none⟩ = some (.slice A5 r'.length c5))
            (go_keep)
            ((first
              | (go_at_call 8
                 with_reducible refine (kA'.out w7.drew H7.out.drew).mono ?_
                 rintro e w8 ⟨rfl, hb8⟩
                 have hB8 := H7.out.drew.trans (hb8.mono H7.out.drew.size)
                 have hX8 := HW.out.2.2.1.below hB8 HW.out.2.2.1.lt
                 have hM8 := HW.out.2.1.below hB8 HW.out.2.1.lt
                 have p0 := hX8.cell 0
                 have p1 := hX8.cell 1
                 have p2 := hX8.cell 2
                 have p3 := hX8.cell 3
                 have q0 := hM8.cell 0
                 have q1 := hM8.cell 1
                 have q2 := hM8.cell 2
                 have q3 := hM8.cell 3
                 have H8 := Lib.hid hB8
                 clear hB8 hX8 hM8 hb8 l0 l1 l2 l3 m0 m1 m2 m3)
              | (go_at_call 8
                 with_reducible refine (kB'.out w8 H8.out).mono ?_
                 rintro e w9 ⟨rfl, hb9⟩
                 have hB9 := H8.out.trans (hb9.mono H8.out.size)
                 have hX9 := HW.out.2.2.1.below hB9 HW.out.2.2.1.lt
                 have hM9 := HW.out.2.1.below hB9 HW.out.2.1.lt
                 have y0 := hX9.cell 0
                 have y1 := hX9.cell 1
                 have y2 := hX9.cell 2
                 have y3 := hX9.cell 3
                 have z0 := hM9.cell 0
                 have z1 := hM9.cell 1
                 have z2 := hM9.cell 2
                 have z3 := hM9.cell 3
                 have H9 := Lib.hid hB9
                 clear hB9 hX9 hM9 hb9 p0 p1 p2 p3 q0 q1 q2 q3)))
          clear y0 y1 y2 y3 z0 z1 z2 z3 kA' kB'
          have d3 : decide ((LA.size : Int) < 2) = false := decide_eq_false (by omega)
          have d4 : decide ((LB.size : Int) < 2) = false := decide_eq_false (by omega)
          go_wp2_with fail
          refine (laws_begins.calls LB _ true w9 (begins_true LB _ (renL ⟨#[]⟩ [⟨key, value, false, []⟩] ++ [125, 10]) (by rw [line_head HL.out.1]; exact HL.out.2))).mono ?_
          rintro e w10 ⟨rfl, hd10⟩
          have hb10 := drawn_below hd10
          have H10 := Lib.hid (H9.out.trans (hb10.mono H9.out.size))
          clear hd10 hb10
          obtain ⟨T, hT⟩ : ∃ T : ByteArray, T = (⟨#[123]⟩ : ByteArray) ++ LB.extract (LA.size - 1) LB.size := ⟨_, rfl⟩
          have hTd : T.data.toList = [123] ++ renL ⟨#[]⟩ [⟨key, value, false, []⟩] ++ [125, 10] := by rw [hT, line_tail HL.out.1 HL.out.2]; simp
          have hTs : T.size ≤ 1099511627776 := by
            have h1 := renL_len [⟨key, value, false, []⟩] ⟨#[]⟩ (Nat.zero_le _)
            have h2 := HN.out.2
            simp only [wtL, wtA] at h1
            rw [Lib.size_eq, hTd]
            simp only [List.length_append, List.length_cons, List.length_nil]
            omega
          have hu : utfL [⟨key, value, false, []⟩] = [(⟨cohB key, cohB value, false, []⟩ : S34)] := by simp [utfL, utfA]
          have k7 : ∀ w0 : World, Calls Tryz.prog 7 #[.string T] w0 fun e w' => ∃ A c, e = .returned (.tuple #[.slice A 1 c, .bool true]) ∧ 1 ≤ c ∧ Kd.C k34 w' A 1 [(⟨cohB key, cohB value, false, []⟩ : S34)] ∧ Below w0.heap.size w0 w' := fun w0 => by
            have h := readJSON7 [⟨key, value, false, []⟩] w0 T (by simp [fineL, fineA]) (by simp) hTd hTs
            rw [hu] at h
            exact h
          have k7 := Lib.hid k7
          have HT := Lib.hid hT
          clear hT hTd hTs hu
          go_wp2_with fail
          rw [← HT.out]
          refine (k7.out w10).mono ?_
          rintro e w11 ⟨A11, c11, rfl, hc11, hC11, hb11⟩
          have H11 := Lib.hid (And.intro (H10.out.trans (hb11.mono H10.out.size)) (And.intro hc11 hC11))
          clear hc11 hC11 hb11 k7
          go_wp2_with fail
          refine (spec_Coerced.calls (key.size + 9) key (cohB key) w11 (coerced_f _ key (Nat.le_refl _) (by have := HN.out.2; omega))).mono ?_
          rintro e w12 ⟨rfl, hd12⟩
          have hb12 := drawn_below hd12
          have H12 := Lib.hid (And.intro (H11.out.1.trans (hb12.mono H11.out.1.size)) (Kd.C_below H11.out.2.2 hb12))
          clear hd12 hb12
          go_wp2_with fail
          refine (spec_Coerced.calls (value.size + 9) value (cohB value) w12 (coerced_f _ value (Nat.le_refl _) (by have := HN.out.2; omega))).mono ?_
          rintro e w13 ⟨rfl, hd13⟩
          have hb13 := drawn_below hd13
          have hba13 : Below w13.heap.size w13 (w13.alloc (.cells #[.string (cohB key), .string (cohB value), .bool false, .slice none 0 0] 34)) := (Below.refl _ _).alloc (Nat.le_refl _) _
          have hB13 := H12.out.1.trans (hb13.mono H12.out.1.size)
          have hone := C_one34 (Blk.new w13 34 #[.string (cohB key), .string (cohB value), .bool false, .slice none 0 0]) (k34_mk _ ⟨cohB key, cohB value, false, []⟩ (Nat.le_refl _) (Kd.F_now (Kd.F_nil _ _ (fun _ => True))))
          have hwl : wtL [(⟨cohB key, cohB value, false, []⟩ : S34)] < 2 ^ 40 := by
            have h1 := cohB_len key
            have h2 := cohB_len value
            have h3 := HN.out.2
            simp only [wtL, wtA]
            omega
          have H13 := Lib.hid (And.intro (hB13.trans (hba13.mono hB13.size)) (And.intro (Kd.C_below (Kd.C_below H12.out.2 hb13) hba13) (And.intro hone hwl)))
          clear hd13 hb13 hba13 hB13 hone hwl
          go_wp2_with fail
          refine (spec_SameAttrs.calls _ A11 c11 [(⟨cohB key, cohB value, false, []⟩ : S34)] (some ⟨w13.heap.size, 0, none⟩) 1 [(⟨cohB key, cohB value, false, []⟩ : S34)] true _ H13.out.2.1 H11.out.2.1 H13.out.2.2.1 (Nat.le_refl _) ((same_f _).1 _ (Nat.le_refl _) H13.out.2.2.2)).mono ?_
          rintro e w14 ⟨rfl, hb14⟩
          have H14 := Lib.hid (H13.out.1.trans (hb14.mono H13.out.1.size))
          clear hb14
          go_wp2_with fail
          refine (k11.out _ (HW.out.1.trans (H14.out.mono HW.out.1.size))).mono ?_
          rintro e w15 ⟨rfl, hb15⟩
          have H15 := Lib.hid (H14.out.trans (hb15.mono H14.out.size))
          clear hb15
          go_wp2_with fail
          go_ret
          exact ⟨rfl, HW.out.1.trans (H15.out.mono HW.out.1.size)⟩
#print axioms law4
end Go.Proofs.YtcllhgajdcemiaaGreatDoor.jb
