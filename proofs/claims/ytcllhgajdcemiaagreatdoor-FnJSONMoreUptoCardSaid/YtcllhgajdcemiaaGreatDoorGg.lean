/-
  Gnames: A handler in memory (Hd), and withGroup: it makes a new handler with one name more. Conditions: at most 2^40 names.
  Gcount: countEmptyGroups, GroupValue, attrsOf: the attributes as the package takes them. Conditions: the lists are not too long.
  Ggroup: GroupValue: a group's attributes without the empty groups. Conditions: the lists are not too long.
  Gof: attrsOf: the attributes as the package takes them (ofL). Conditions: the tree is not too large.
-/
import Derived.Test.YtcllhgajdcemiaaGreatDoorGa
import Derived.Test.YtcllhgajdcemiaaGreatDoorPl
import Derived.ArgAppend
namespace Go.Proofs.YtcllhgajdcemiaaGreatDoor.jb
open Go.RowKit Go.Proofs.YtcllhgajdcemiaaGreatDoorW.PrintWords
open Go.Proofs.YtcllhgajdcemiaaGreatDoor.wk (Blk bytesOf own_form)
set_option linter.unusedVariables false
set_option linter.unusedSimpArgs false

theorem info9 : (Tryz.prog.info? 9).map (fun i => (i.zero, i.size, i.bytes)) = some (some (.string ⟨#[]⟩), 1, 16) := by kernel_rfl

/-- names that are read. -/
def Names (w : World) (A : Option Addr) (ns : List ByteArray) : Prop := ReadsOf Value.string (⟨#[]⟩ : ByteArray) w A ns.length ns ∧ (ns = [] → A = none)
theorem Names.below {w w' : World} {A : Option Addr} {ns : List ByteArray} (h : Names w A ns) (hb : Below w.heap.size w w') : Names w' A ns := ⟨h.1.below hb, h.2⟩
theorem Names.F {w : World} {A : Option Addr} {ns : List ByteArray} (h : Names w A ns) : Kd.F Kd.string w (fun k => k < w.heap.size) A ns.length ns := Kd.C_F Kd.heap_string (Kd.C_of_reads h.1)
theorem Names.of_own {w : World} {base n : Nat} {v : Value} {ns : List ByteArray} (h : w.ownsRow base 9 1 v n (encs Value.string ns)) (hn : ns ≠ []) : ∃ A c, v = .slice A ns.length c ∧ ns.length ≤ c ∧ Names w A ns := by
  have hl : ns.length = n := by have := h.1; rw [encs_length, Nat.mul_one] at this; exact this
  subst hl
  obtain ⟨A, c, rfl, hc, hr⟩ := own_reads_of_le (d := (⟨#[]⟩ : ByteArray)) h
  exact ⟨A, c, rfl, hc, hr, fun e => absurd e hn⟩

theorem encs_append' (ns : List ByteArray) (s : ByteArray) : encs Value.string (ns ++ [s]) = encs Value.string ns ++ [.string s] := by simp [encs]
/-- bytes that are read, in a block of the heap. -/
def Pf (w : World) (A : Option Addr) (bl : List UInt8) : Prop := (bl = [] → A = none) ∧ (bl ≠ [] → ∃ g o, A = some ⟨g, o, none⟩ ∧ g < w.heap.size ∧ ∀ j u, (bytesOf bl)[j]? = some u → w.cell? ⟨g, o + j, none⟩ = some u)
theorem Pf.below {w w' : World} {A : Option Addr} {bl : List UInt8} (h : Pf w A bl) (hb : Below w.heap.size w w') : Pf w' A bl :=
  ⟨h.1, fun hn => by
    obtain ⟨g, o, e, hg, hc⟩ := h.2 hn
    exact ⟨g, o, e, Nat.lt_of_lt_of_le hg hb.size, fun j u hu => (hb.cell (p := ⟨g, o + j, none⟩) hg).trans (hc j u hu)⟩⟩
theorem Pf.Bf {w : World} {A : Option Addr} {bl : List UInt8} (h : Pf w A bl) : Bf w w.heap.size (.slice A bl.length bl.length) bl := by
  by_cases hn : bl = []
  · subst hn
    rw [h.1 rfl]
    exact Bf.nil _ _
  · obtain ⟨g, o, rfl, hg, hc⟩ := h.2 hn
    exact .inr ⟨g, o, rfl, List.length_pos_iff.2 hn, hg, hc⟩

/-- the handler at block b. -/
def Hd (w : World) (b : Nat) (H : Hs) : Prop := ∃ pA pc gA gc, Blk w b 68 #[.bool true, .slice pA H.bl.length pc, .string ⟨#[]⟩, .slice gA H.ns.length gc, .int .i64 (H.k : Int)] ∧ H.bl.length ≤ pc ∧ Pf w pA H.bl ∧ H.ns.length ≤ gc ∧ Names w gA H.ns ∧ H.k ≤ H.ns.length
theorem Hd.below {w w' : World} {b : Nat} {H : Hs} (h : Hd w b H) (hb : Below w.heap.size w w') : Hd w' b H := by
  obtain ⟨pA, pc, gA, gc, h1, h2, h3, h4, h5, h6⟩ := h
  exact ⟨pA, pc, gA, gc, h1.below hb h1.lt, h2, h3.below hb, h4, h5.below hb, h6⟩

set_option maxRecDepth 100000 in
set_option maxHeartbeats 2000000 in
theorem withGroup_g (w : World) (b : Nat) (H : Hs) (name : ByteArray) (h : Hd w b H) (hlen : H.ns.length + 1 ≤ 1099511627776) :
    Calls Tryz.prog 31 #[.pointer (some ⟨b, 0, none⟩), .string name] w fun e w' => ∃ b', e = .returned (.pointer (some ⟨b', 0, none⟩)) ∧ Hd w' b' (withG H name) ∧ Below w.heap.size w w' := by
  obtain ⟨pA, pc, gA, gc, h1, h2, h3, h4, h5, h6⟩ := h
  obtain ⟨i0, hi, hz0, hz1, hz2⟩ := info_parts info9
  have k38 := Lib.hid (clone38 w b pA H.bl.length pc h2 gA H.ns.length gc h4 (H.k : Int) h1)
  have H3 := Lib.hid h3
  have H5 := Lib.hid h5
  have H6 := Lib.hid h6
  clear h1 h2 h3 h4 h5 h6
  go_enter Tryz.func31, Tryz.ntmps31
  go_wp2_with fail
  refine k38.out.mono ?_
  rintro e w1 ⟨b', rfl, hb1, hB, hbel⟩
  have c1 := hB.cell 3
  have HB := Lib.hid hB
  have HW := Lib.hid (And.intro hb1 hbel)
  clear hB hb1 hbel k38
  have hal : Below w1.heap.size w1 (w1.alloc (.cells #[.string name] 9)) := (Below.refl _ _).alloc (Nat.le_refl _) _
  have hN := (H5.out.below HW.out.2).below hal
  have HN := Lib.hid hN
  have HA := Lib.hid hal
  clear hN hal
  go_wp2_with (at_builtin; go_must (refine wpList_append_grows _ rfl _ _ 66 rfl 9 i0 (.string ⟨#[]⟩) 1 16 Tryz.underlying66 hi hz0 hz1 hz2 rfl (by decide) gA H.ns.length H.ns.length (encs Value.string H.ns) rfl ?hnone ?hlo ?holds ⟨w1.heap.size, 0, none⟩ 1 1 [.string name] rfl rfl ?hc ?h1c (by omega) (by unfold maxLen; omega) (by omega) ?_))
  case hnone =>
    intro e
    have h := HN.out.1.2.2
    by_cases h0 : 0 < H.ns.length
    · obtain ⟨ad, he, _⟩ := h h0
      cases e.symm.trans he
    · omega
  case hlo => rw [encs_length, Nat.mul_one]
  case holds =>
    intro a e j u hj
    have hlt : j < H.ns.length := by
      have := (List.getElem?_eq_some_iff.1 hj).1
      rwa [encs_length] at this
    rw [encs_get (d := (⟨#[]⟩ : ByteArray)) H.ns j hlt] at hj
    injection hj with hj
    subst hj
    obtain ⟨ad, he, hcell⟩ := HN.out.1.2.2 (by omega)
    cases e.symm.trans he
    exact hcell j hlt
  case hc =>
    intro j u hj
    match j, hj with
    | 0, hj => simp at hj; subst hj; simp [Addr.add]
  case h1c => intro u hu; simp at hu; subst hu; rfl
  intro v' w2 hown hgr
  have hbel2 : Below w1.heap.size w1 w2 := HA.out.trans (((Below.refl _ _).grown (row := none) hgr (Nat.le_refl _) (fun k hk => by cases hk)).mono (by simp))
  have hown2 := hown
  rw [← encs_append' H.ns name] at hown2
  obtain ⟨A', c', rfl, hcc, hnn⟩ := Names.of_own (ns := H.ns ++ [name]) hown2 (by simp)
  have hB2 := HB.out.below hbel2 HB.out.lt
  have f2 := hB2.frozen 3
  have c2 := hB2.cell 3
  have HB2 := Lib.hid hB2
  have HN2 := Lib.hid (And.intro hcc hnn)
  have HE := Lib.hid hbel2
  have HO := Lib.hid hown2
  clear hown2 hB2 hcc hnn hbel2 hown hgr HN HA HB hi hz0 hz1 hz2 c1
  go_wp2_with fail
  go_ret
  have hq := HB2.out
  have hset := hq.set_ 3 (.slice A' (H.ns ++ [name]).length c')
  have hw2 : Below w.heap.size w w2 := HW.out.2.trans (HE.out.mono HW.out.2.size)
  have hst : Below w2.heap.size w2 w2 := Below.refl _ _
  have hlt := hq.lt
  refine ⟨b', rfl, ⟨pA, H.bl.length, A', c', ?_, Nat.le_refl _, ?_, HN2.out.1, ?_, ?_⟩, hw2.setCell (p := ⟨b', 3, none⟩) HW.out.1 _⟩
  · simpa [withG] using hset
  · exact H3.out.below (hw2.setCell (p := ⟨b', 3, none⟩) HW.out.1 _)
  · have ho3 := HO.out.kept (row := some b') (w' := w2.setCell ⟨b', 3, none⟩ (.slice A' (H.ns ++ [name]).length c')) ⟨rfl, rfl, rfl, by simp [World.setCell], fun k _ hk => Below.heap_setCell w2 ⟨b', 3, none⟩ _ k (fun e => hk (by rw [e]))⟩ (.inr (wk.own_blk_ne HO.out hq (by decide)))
    obtain ⟨A2, c2, e, _, hN⟩ := Names.of_own ho3 (by simp)
    injection e with e1 e2 e3
    rw [← e1] at hN
    simpa [withG] using hN
  · have := H6.out
    simp [withG]
    omega
end Go.Proofs.YtcllhgajdcemiaaGreatDoor.jb

namespace Go.Proofs.YtcllhgajdcemiaaGreatDoor.jb
open Go.RowKit Go.Proofs.YtcllhgajdcemiaaGreatDoorW.PrintWords
open Go.Proofs.YtcllhgajdcemiaaGreatDoor.wk (Blk bytesOf own_form)
set_option linter.unusedVariables false
set_option linter.unusedSimpArgs false

def countE (l : List S102) : Nat := (l.filter emptyG).length
set_option maxRecDepth 100000 in
set_option maxHeartbeats 2000000 in
theorem count39 (w : World) (ok : Nat → Prop) (A : Option Addr) (n c : Nat) (l : List S102) (hF : Kd.F k102 w ok A n l) :
    Calls Tryz.prog 39 #[.slice A n c] w fun e w' => e = .returned (.int .i64 (countE l : Int)) ∧ Below w.heap.size w w' := by
  have hn := Kd.F_len hF
  subst hn
  have HF := Lib.hid hF
  have HM := Lib.hid (Kd.F_max hF)
  clear hF
  go_enter Tryz.func39, Tryz.ntmps39
  go_wp2_with fail
  go_loopg [3, 8] (l.length) (fun j v3 v8 wr => ∃ i : Nat, v3 = .int .i64 (countE (l.take i) : Int) ∧ v8 = .int .i64 i ∧ Aside (i ≤ l.length ∧ j = l.length - i ∧ Below w.heap.size w wr))
  case atStart => exact ⟨0, by simp [countE], rfl, Nat.zero_le _, rfl, Below.refl _ w⟩
  case round =>
    obtain ⟨i, rfl, rfl, HI⟩ := hrel
    by_cases hi : i < l.length
    · have hi0 : decide ((i : Int) < (l.length : Int)) = true := decide_eq_true (by omega)
      have hF1 := Kd.F_below HF.out HI.out.2.2
      obtain ⟨ad, A3, c3, e, hx0, hx1, hx2, hx3, hl3, hF3⟩ := at_F102 hF1 i hi
      cases e
      have HI2 := Lib.hid HI.out
      clear hF3 hF1 HI hl3
      go_wp2_with fail
      refine (isEmptyGroup50 _ l[i].f1 l[i].f2 A3 l[i].f3.length c3).mono ?_
      rintro e w2 ⟨rfl, hb2⟩
      have hE : (l[i].f1 == 2 && l[i].f3.length == 0) = emptyG l[i] := by
        unfold emptyG
        cases l[i].f3 <;> simp
      rw [hE]
      have hba : Below wr.heap.size wr (wr.alloc (.cells #[.string l[i].f0, .int .i64 l[i].f1, .string l[i].f2, .slice A3 l[i].f3.length c3] 102)) := (Below.refl _ _).alloc (Nat.le_refl _) _
      have hb3 : Below w.heap.size w w2 := HI2.out.2.2.trans ((hba.trans (hb2.mono hba.size)).mono HI2.out.2.2.size)
      have HB := Lib.hid hb3
      have HK := Lib.hid HI2.out.2.1
      clear hb2 hba hb3 HI2 hE hx0 hx1 hx2 hx3
      have e1 : l.take (i + 1) = l.take i ++ [l[i]] := (List.take_append_getElem hi).symm
      have hadd : wrap64 ((i : Int) + 1) = (i : Int) + 1 := IntWalk.wrap64_in _ ⟨by omega, by have := HM.out; omega⟩
      have hcl : countE (l.take i) ≤ i := by
        have := List.length_filter_le emptyG (l.take i)
        rw [List.length_take] at this
        unfold countE
        omega
      have hadd2 : wrap64 ((countE (l.take i) : Int) + 1) = (countE (l.take i) : Int) + 1 := IntWalk.wrap64_in _ ⟨by omega, by have := HM.out; omega⟩
      cases hEv : emptyG l[i] with
      | true =>
        go_wp2_with fail
        go_roundg (l.length - (i + 1))
        case measure => have := HK.out; omega
        case rel =>
          refine ⟨i + 1, ?_, ?_, hi, rfl, HB.out⟩
          · rw [e1]
            unfold countE at hadd2 ⊢
            rw [List.filter_append, List.length_append, hadd2]
            simp [hEv]
          · rw [hadd]; simp
      | false =>
        go_wp2_with fail
        go_roundg (l.length - (i + 1))
        case measure => have := HK.out; omega
        case rel =>
          refine ⟨i + 1, ?_, ?_, hi, rfl, HB.out⟩
          · rw [e1]
            unfold countE
            rw [List.filter_append]
            simp [hEv]
          · rw [hadd]; simp
    · have hi0 : decide ((i : Int) < (l.length : Int)) = false := decide_eq_false (by omega)
      have hil : i = l.length := by have := HI.out.1; omega
      have HI2 := Lib.hid HI.out
      have HJ := Lib.hid hil
      clear HI hil
      go_wp2_with fail
      go_ret
      refine ⟨?_, HI2.out.2.2⟩
      rw [HJ.out, List.take_length]
      rfl
end Go.Proofs.YtcllhgajdcemiaaGreatDoor.jb

namespace Go.Proofs.YtcllhgajdcemiaaGreatDoor.jb
open Go.RowKit Go.Proofs.YtcllhgajdcemiaaGreatDoorW.PrintWords
open Go.Proofs.YtcllhgajdcemiaaGreatDoor.wk (Blk bytesOf own_form)
set_option linter.unusedVariables false
set_option linter.unusedSimpArgs false

/-- what GroupValue answers. -/
def GvPost (w : World) (ok : Nat → Prop) (L : List S102) (e : Ending) (w' : World) : Prop :=
  ∃ A' c', e = .returned (.agg #[.int .i64 2, .string ⟨#[]⟩, .slice A' L.length c']) ∧ L.length ≤ c' ∧ Kd.F k102 w' (fun k => ok k ∨ w.heap.size ≤ k) A' L.length L ∧ Below w.heap.size w w'
set_option maxRecDepth 100000 in
set_option maxHeartbeats 2000000 in
theorem groupValue_none (w : World) (ok : Nat → Prop) (A : Option Addr) (n c : Nat) (hc : n ≤ c) (l : List S102) (hF : Kd.F k102 w ok A n l) (hz : countE l = 0) :
    Calls Tryz.prog 49 #[.slice A n c] w (GvPost w ok l) := by
  have hn := Kd.F_len hF
  subst hn
  have HF := Lib.hid hF
  have HM := Lib.hid (Kd.F_max hF)
  have HC := Lib.hid hc
  clear hF hc
  go_enter Tryz.func49, Tryz.ntmps49
  go_wp2_with fail
  have hba : Below w.heap.size w (w.alloc (.cells #[.int .i64 0, .string ⟨#[]⟩, .slice none 0 0] 99)) := (Below.refl _ _).alloc (Nat.le_refl _) _
  refine (count39 _ ok A l.length c l (Kd.F_below HF.out hba)).mono ?_
  rintro e w1 ⟨rfl, hb1⟩
  have hN1 := (Blk.new w 99 #[.int .i64 0, .string ⟨#[]⟩, .slice none 0 0]).below hb1 (by simp)
  replace hb1 : Below w.heap.size w w1 := hba.trans (hb1.mono hba.size)
  have c0 := hN1.cell 0
  have c1 := hN1.cell 1
  have c2 := hN1.cell 2
  have f0 := hN1.frozen 0
  have f1 := hN1.frozen 1
  have f2 := hN1.frozen 2
  have HN := Lib.hid hN1
  clear hba hN1
  rw [hz]
  have HB := Lib.hid hb1
  clear hb1
  go_wp2_with fail
  have hb2 : Below w.heap.size w (((w1.setCell ⟨w.heap.size, 0, none⟩ (.int .i64 2)).setCell ⟨w.heap.size, 1, none⟩ (.string ⟨#[]⟩)).setCell ⟨w.heap.size, 2, none⟩ (.slice A l.length c)) := ((HB.out.setCell (p := ⟨w.heap.size, 0, none⟩) (Nat.le_refl _) _).setCell (p := ⟨w.heap.size, 1, none⟩) (Nat.le_refl _) _).setCell (p := ⟨w.heap.size, 2, none⟩) (Nat.le_refl _) _
  have hN2 := ((HN.out.set_ 0 (.int .i64 2)).set_ 1 (.string ⟨#[]⟩)).set_ 2 (.slice A l.length c)
  generalize (((w1.setCell ⟨w.heap.size, 0, none⟩ (.int .i64 2)).setCell ⟨w.heap.size, 1, none⟩ (.string ⟨#[]⟩)).setCell ⟨w.heap.size, 2, none⟩ (.slice A l.length c)) = w2 at *
  have d0 : w2.cell? ⟨w.heap.size, 0, none⟩ = some (.int .i64 2) := hN2.cell 0
  have d1 : w2.cell? ⟨w.heap.size, 1, none⟩ = some (.string ⟨#[]⟩) := hN2.cell 1
  have d2 : w2.cell? ⟨w.heap.size, 2, none⟩ = some (.slice A l.length c) := hN2.cell 2
  refine bodyPost_ret (v := .agg #[.int .i64 2, .string ⟨#[]⟩, .slice A l.length c]) (by simp [results, Tryz.results49, go_sem, d0, d1, d2]) rfl ⟨A, c, rfl, HC.out, ?_, hb2⟩
  exact Kd.F_mono (Kd.F_below HF.out hb2) (fun _ h => .inl h)
set_option maxRecDepth 100000 in
set_option maxHeartbeats 2000000 in
theorem groupValue_some (w : World) (ok : Nat → Prop) (A : Option Addr) (n c : Nat) (hc : n ≤ c) (l : List S102) (hF : Kd.F k102 w ok A n l) (hz : 0 < countE l) (hlen : l.length ≤ 1099511627776) (hok : ∀ k, ok k → k < w.heap.size) :
    Calls Tryz.prog 49 #[.slice A n c] w (GvPost w ok (l.filter (fun a => !emptyG a))) := by
  have hn := Kd.F_len hF
  subst hn
  have HF := Lib.hid hF
  have HM := Lib.hid (Kd.F_max hF)
  have HC := Lib.hid hc
  clear hF hc
  go_enter Tryz.func49, Tryz.ntmps49
  go_wp2_with fail
  have hba : Below w.heap.size w (w.alloc (.cells #[.int .i64 0, .string ⟨#[]⟩, .slice none 0 0] 99)) := (Below.refl _ _).alloc (Nat.le_refl _) _
  refine (count39 _ ok A l.length c l (Kd.F_below HF.out hba)).mono ?_
  rintro e w1 ⟨rfl, hb1⟩
  have hN1 := (Blk.new w 99 #[.int .i64 0, .string ⟨#[]⟩, .slice none 0 0]).below hb1 (by simp)
  replace hb1 : Below w.heap.size w w1 := hba.trans (hb1.mono hba.size)
  have c0 := hN1.cell 0
  have c1 := hN1.cell 1
  have c2 := hN1.cell 2
  have f0 := hN1.frozen 0
  have f1 := hN1.frozen 1
  have f2 := hN1.frozen 2
  have HN := Lib.hid hN1
  clear hba hN1
  have HOK := Lib.hid hok
  clear hok
  have hz1 : decide ((0 : Int) < (countE l : Int)) = true := decide_eq_true (by omega)
  have HB := Lib.hid hb1
  clear hb1
  have hcl : countE l ≤ l.length := by unfold countE; exact List.length_filter_le _ _
  have hw64 : wrap64 ((l.length : Int) - (countE l : Int)) = ((l.length - countE l : Nat) : Int) := by
    rw [IntWalk.wrap64_in _ ⟨by omega, by omega⟩]
    omega
  obtain ⟨i0, hi, hz0, hz1, hz2⟩ := info_parts info102
  go_wp2_with (at_make; go_must (refine wpList_make_own _ rfl _ _ 71 rfl w.heap.size 102 i0 _ 4 Tryz.underlying71 hi hz0 hz1 .i64 .i64 _ (l.length - countE l) rfl rfl (by omega) (by rw [hz2]; omega) (by unfold maxLen; omega) ?hbase ?_))
  case hbase => exact HB.out.size
  intro w2 hown hgr
  have hlt1 : w.heap.size < w1.heap.size := HN.out.lt
  have hb2 : Below w.heap.size w w2 := HB.out.grown (row := none) hgr (Nat.le_of_lt hlt1) (fun k hk => by cases hk)
  have hN2 := HN.out.grown hgr (by simp)
  have hR2 : Kd.N k102 102 w2 w.heap.size (fun k => ok k ∨ w.heap.size < k) (.slice (some ⟨w1.heap.size, 0, none⟩) 0 (l.length - countE l)) [] :=
    Kd.R_N ⟨fun k hk => .inr (by simp [Value.ownBlock] at hk; omega), [], hown, by constructor <;> simp⟩
  have HB2 := Lib.hid (And.intro hb2 (And.intro hN2 hR2))
  clear hown hgr hb2 hN2 hR2 hcl hw64 hlt1
  clear c0 c1 c2 f0 f1 f2 HN HB
  go_wp2_with fail
  clear hz1
  go_loopg [4, 18] (l.length) (fun j v4 v18 wr => ∃ i : Nat, v18 = .int .i64 i ∧ Aside (i ≤ l.length ∧ j = l.length - i ∧ Below w.heap.size w wr ∧ Blk wr w.heap.size 99 #[.int .i64 0, .string ⟨#[]⟩, .slice none 0 0] ∧ Kd.N k102 102 wr w.heap.size (fun k => ok k ∨ w.heap.size < k) v4 ((l.take i).filter (fun a => !emptyG a))))
  case atStart => exact ⟨0, rfl, Nat.zero_le _, rfl, HB2.out.1, HB2.out.2.1, by simpa using HB2.out.2.2⟩
  case round =>
    obtain ⟨i, rfl, HI⟩ := hrel
    by_cases hi : i < l.length
    · have hi0 : decide ((i : Int) < (l.length : Int)) = true := decide_eq_true (by omega)
      have hF1 := Kd.F_below HF.out HI.out.2.2.1
      obtain ⟨ad, A3, c3, e, hx0, hx1, hx2, hx3, hl3, hF3⟩ := at_F102 hF1 i hi
      cases e
      have HI2 := Lib.hid HI.out
      have HE3 := Lib.hid (And.intro hl3 hF3)
      clear hF3 hF1 HI hl3
      go_wp2_with fail
      refine (isEmptyGroup50 _ l[i].f1 l[i].f2 A3 l[i].f3.length c3).mono ?_
      rintro e w3 ⟨rfl, hb2⟩
      have hE : (l[i].f1 == 2 && l[i].f3.length == 0) = emptyG l[i] := by
        unfold emptyG
        cases l[i].f3 <;> simp
      rw [hE]
      have hba : Below wr.heap.size wr (wr.alloc (.cells #[.string l[i].f0, .int .i64 l[i].f1, .string l[i].f2, .slice A3 l[i].f3.length c3] 102)) := (Below.refl _ _).alloc (Nat.le_refl _) _
      have hb3 : Below wr.heap.size wr w3 := hba.trans (hb2.mono hba.size)
      have hX := (Blk.new wr 102 #[.string l[i].f0, .int .i64 l[i].f1, .string l[i].f2, .slice A3 l[i].f3.length c3]).below hb2 (by simp)
      have y0 := hX.cell 0
      have y1 := hX.cell 1
      have y2 := hX.cell 2
      have y3 := hX.cell 3
      have HB := Lib.hid hb3
      clear hb2 hba hb3 hE hx0 hx1 hx2 hx3 hX
      have e1 : l.take (i + 1) = l.take i ++ [l[i]] := (List.take_append_getElem hi).symm
      have hadd : wrap64 ((i : Int) + 1) = (i : Int) + 1 := IntWalk.wrap64_in _ ⟨by omega, by have := HM.out; omega⟩
      have hBw : Below w.heap.size w w3 := HI2.out.2.2.1.trans (HB.out.mono HI2.out.2.2.1.size)
      have hNw : Kd.N k102 102 w3 w.heap.size (fun k => ok k ∨ w.heap.size < k) u4 ((l.take i).filter (fun a => !emptyG a)) := Kd.N_below HI2.out.2.2.2.2 HB.out
      have hXw := HI2.out.2.2.2.1.below HB.out HI2.out.2.2.2.1.lt
      have hFw : Kd.F k102 w3 ok A3 l[i].f3.length l[i].f3 := Kd.F_below HE3.out.2 HB.out
      have HW := Lib.hid (And.intro hBw (And.intro hNw (And.intro hXw (And.intro HI2.out.2.1 (And.intro HE3.out.1 hFw)))))
      clear hBw hNw hXw hFw HI2 HE3 HB
      cases hEv : emptyG l[i] with
      | true =>
        clear y0 y1 y2 y3
        go_wp2_with fail
        go_roundg (l.length - (i + 1))
        case measure => have := HW.out.2.2.2.1; omega
        case rel =>
          refine ⟨i + 1, ?_, hi, rfl, HW.out.1, HW.out.2.2.1, ?_⟩
          · simp
          · rw [e1, List.filter_append]
            simpa [hEv] using HW.out.2.1
      | false =>
        go_wp2_with (at_builtin; go_must (refine Kd.N_append k102 (w0 := w) w.heap.size rfl (.tmp 26) (.tmp 28) 71 102 (.agg #[(.string ⟨#[]⟩), (.int .i64 0), (.string ⟨#[]⟩), (.slice none 0 0)]) 64 rfl Tryz.underlying71 info102 rfl (by decide) (by omega) u4 ((l.take i).filter (fun a => !emptyG a)) l[i] [.string l[i].f0, .int .i64 l[i].f1, .string l[i].f2, .slice A3 l[i].f3.length c3] (fun k => ok k ∨ w.heap.size < k) ok rfl rfl ?aP ?aK ?aF ?aO ?aB ?aS ?aL ?_))
        case aP => exact k102_mkF _ _ l[i] HW.out.2.2.2.2.1 HW.out.2.2.2.2.2
        case aK =>
          intro k hk
          refine ⟨.inl hk, fun e => ?_⟩
          have := Kd.N_base HW.out.2.1 k e.symm
          have := HOK.out k hk
          omega
        case aF => intro k hk; exact .inr (Nat.lt_of_lt_of_le HW.out.2.2.1.lt hk)
        case aO => exact HW.out.2.1
        case aB => exact HW.out.1
        case aS => exact HW.out.1.size
        case aL =>
          have h1 := List.length_filter_le (fun a => !emptyG a) (l.take i)
          rw [List.length_take] at h1
          omega
        intro v5 w5 hN5 hB5 hg5 hat5
        have hX5 := HW.out.2.2.1.grown hg5 (fun e => by
          have := Kd.N_ne HW.out.2.1 HW.out.2.2.1 (by decide)
          exact this e)
        have HW5 := Lib.hid (And.intro hN5 (And.intro hB5 (And.intro hX5 HW.out.2.2.2.1)))
        clear hN5 hB5 hg5 hat5 hX5 HW y0 y1 y2 y3
        go_wp2_with fail
        go_roundg (l.length - (i + 1))
        case measure => have := HW5.out.2.2.2; omega
        case rel =>
          refine ⟨i + 1, ?_, hi, rfl, HW5.out.2.1, HW5.out.2.2.1, ?_⟩
          · simp
          · rw [e1, List.filter_append]
            simpa [hEv] using HW5.out.1
    · have hi0 : decide ((i : Int) < (l.length : Int)) = false := decide_eq_false (by omega)
      have hil : i = l.length := by have := HI.out.1; omega
      subst hil
      have hNl := HI.out.2.2.2.2
      rw [List.take_length] at hNl
      obtain ⟨A', c', rfl, hc', _⟩ := Kd.N_reads hNl
      have hX := HI.out.2.2.2.1
      have c0 := hX.cell 0
      have c1 := hX.cell 1
      have c2 := hX.cell 2
      have f0 := hX.frozen 0
      have f1 := hX.frozen 1
      have f2 := hX.frozen 2
      have HW := Lib.hid (And.intro hNl (And.intro hc' (And.intro hX HI.out.2.2.1)))
      clear hNl hc' hX HI
      go_wp2_with fail
      generalize hL : l.filter (fun a => !emptyG a) = L at *
      have hb2 := ((HW.out.2.2.2.setCell (p := ⟨w.heap.size, 0, none⟩) (Nat.le_refl _) (.int .i64 2)).setCell (p := ⟨w.heap.size, 1, none⟩) (Nat.le_refl _) (.string ⟨#[]⟩)).setCell (p := ⟨w.heap.size, 2, none⟩) (Nat.le_refl _) (.slice A' L.length c')
      have hN2 := ((HW.out.2.2.1.set_ 0 (.int .i64 2)).set_ 1 (.string ⟨#[]⟩)).set_ 2 (.slice A' L.length c')
      have hne : ∀ k, (ok k ∨ w.heap.size < k) → k ≠ w.heap.size := fun k hk => by
        rcases hk with hk | hk
        · have := HOK.out k hk; omega
        · omega
      have hN3 := Kd.N_far (p := ⟨w.heap.size, 2, none⟩) (Kd.N_far (p := ⟨w.heap.size, 1, none⟩) (Kd.N_far (p := ⟨w.heap.size, 0, none⟩) HW.out.1 hne (.int .i64 2)) hne (.string ⟨#[]⟩)) hne (.slice A' L.length c')
      generalize (((wr.setCell ⟨w.heap.size, 0, none⟩ (.int .i64 2)).setCell ⟨w.heap.size, 1, none⟩ (.string ⟨#[]⟩)).setCell ⟨w.heap.size, 2, none⟩ (.slice A' L.length c')) = w9 at *
      have d0 : w9.cell? ⟨w.heap.size, 0, none⟩ = some (.int .i64 2) := hN2.cell 0
      have d1 : w9.cell? ⟨w.heap.size, 1, none⟩ = some (.string ⟨#[]⟩) := hN2.cell 1
      have d2 : w9.cell? ⟨w.heap.size, 2, none⟩ = some (.slice A' L.length c') := hN2.cell 2
      refine bodyPost_ret (v := .agg #[.int .i64 2, .string ⟨#[]⟩, .slice A' L.length c']) (by simp [results, Tryz.results49, go_sem, d0, d1, d2]) rfl ⟨A', c', rfl, HW.out.2.1, ?_, hb2⟩
      exact Kd.F_mono (Kd.N_F hN3) (fun k hk => hk.imp id (fun h => Nat.le_of_lt h))
theorem groupValue49 (w : World) (ok : Nat → Prop) (A : Option Addr) (n c : Nat) (hc : n ≤ c) (l : List S102) (hF : Kd.F k102 w ok A n l) (hlen : l.length ≤ 1099511627776) (hok : ∀ k, ok k → k < w.heap.size) :
    Calls Tryz.prog 49 #[.slice A n c] w (GvPost w ok (l.filter (fun a => !emptyG a))) := by
  by_cases hz : countE l = 0
  · have e : l.filter (fun a => !emptyG a) = l := by
      refine List.filter_eq_self.2 (fun a ha => ?_)
      unfold countE at hz
      have h0 : l.filter emptyG = [] := List.eq_nil_of_length_eq_zero hz
      cases he : emptyG a with
      | false => rfl
      | true =>
        have : a ∈ l.filter emptyG := List.mem_filter.2 ⟨ha, he⟩
        rw [h0] at this
        simp at this
    rw [e]
    exact groupValue_none w ok A n c hc l hF hz
  · exact groupValue_some w ok A n c hc l hF (by omega) hlen hok
end Go.Proofs.YtcllhgajdcemiaaGreatDoor.jb

namespace Go.Proofs.YtcllhgajdcemiaaGreatDoor.jb
open Go.RowKit Go.Proofs.YtcllhgajdcemiaaGreatDoorW.PrintWords Go.Proofs.YtcllhgajdcemiaaGreatDoorW.PrintLast Go.Proofs.YtcllhgajdcemiaaGreatDoorW.PrintMore
open Go.Proofs.YtcllhgajdcemiaaGreatDoor.PFnJSONBack
open Go.Proofs.YtcllhgajdcemiaaGreatDoor.wk (Blk bytesOf own_form)
set_option linter.unusedVariables false
set_option linter.unusedSimpArgs false
mutual
def wA79 : S79 → Nat
  | ⟨_, _, _, l⟩ => 20 + wL79 l
def wL79 : List S79 → Nat
  | [] => 0
  | a :: l => wA79 a + wL79 l
end
theorem wA79_eq (a : S79) : wA79 a = 20 + wL79 a.f3 := by obtain ⟨k, v, g, l⟩ := a; rw [wA79]
theorem wL79_length : ∀ l : List S79, 20 * l.length ≤ wL79 l
  | [] => by simp
  | a :: l => by
    have := wL79_length l
    rw [wL79, wA79_eq, List.length_cons]
    omega
theorem wL79_mem : ∀ (l : List S79) (i : Nat) (h : i < l.length), 20 + wL79 l[i].f3 ≤ wL79 l
  | [], i, h => by simp at h
  | a :: l, 0, h => by rw [wL79, wA79_eq]; simp
  | a :: l, i + 1, h => by
    have := wL79_mem l i (by simpa using h)
    rw [wL79]
    simp only [List.getElem_cons_succ]
    omega
theorem ofL_length : ∀ l : List S79, (ofL l).length = l.length
  | [] => by simp [ofL]
  | a :: l => by simp [ofL, ofL_length l]
theorem ofL_snoc (a : S79) : ∀ l : List S79, ofL (l ++ [a]) = ofL l ++ [ofA a]
  | [] => by simp [ofL]
  | b :: l => by simp [ofL, ofL_snoc a l]
theorem rd79 (xs : List S79) (i : Nat) (h : i < xs.length) : rd_T79 xs (i : Int) = xs[i] := by
  unfold rd_T79
  rw [Int.toNat_natCast, List.getD_eq_getElem?_getD, List.getElem?_eq_getElem h]
  rfl
theorem at79 {w : World} {A : Option Addr} {xs : List S79} (h : Kd.C k79 w A xs.length xs) (i : Nat) (hi : i < xs.length) :
    ∃ ad A3 c3, A = some ad ∧ w.cell? (ad.add (i * 4)) = some (.string xs[i].f0) ∧ w.cell? ⟨(ad.add (i * 4)).block, (ad.add (i * 4)).off + 1, none⟩ = some (.string xs[i].f1) ∧ w.cell? ⟨(ad.add (i * 4)).block, (ad.add (i * 4)).off + 2, none⟩ = some (.bool xs[i].f2) ∧ w.cell? ⟨(ad.add (i * 4)).block, (ad.add (i * 4)).off + 3, none⟩ = some (.slice A3 xs[i].f3.length c3) ∧ xs[i].f3.length ≤ c3 ∧ k79.C w A3 xs[i].f3.length xs[i].f3 := by
  have := at_T79 h (i : Int) (by omega) (by omega)
  rw [rd79 xs i hi] at this
  simpa using this
def OfCon (l : List S79) : Prop := ∀ (w : World) (A : Option Addr) (c : Nat), Kd.C k79 w A l.length l → l.length ≤ c →
  Calls Tryz.prog 33 #[.slice A l.length c] w fun e w' => ∃ v, e = .returned v ∧ Kd.N k102 102 w' w.heap.size (fun k => w.heap.size ≤ k) v (ofL l) ∧ Below w.heap.size w w'
set_option maxRecDepth 100000 in
set_option maxHeartbeats 2000000 in
theorem attrsOf_step (l : List S79) (hlen : wL79 l < 2 ^ 40) (ih : ∀ a, a ∈ l → OfCon a.f3) : OfCon l := by
  intro w A c hC hc
  have HC := Lib.hid (And.intro hC hc)
  clear hC hc
  go_enter Tryz.func33, Tryz.ntmps33
  go_wp2_with fail
  go_loopg [3, 8] (l.length) (fun j v3 v8 wr => ∃ i : Nat, v8 = .int .i64 i ∧ Aside (i ≤ l.length ∧ j = l.length - i ∧ Below w.heap.size w wr ∧ Kd.N k102 102 wr w.heap.size (fun k => w.heap.size ≤ k) v3 (ofL (l.take i))))
  case atStart => exact ⟨0, rfl, Nat.zero_le _, rfl, Below.refl _ w, by simpa [ofL] using Kd.N_nil _ _ _ _ _⟩
  case round =>
    obtain ⟨i, rfl, HI⟩ := hrel
    have hll := wL79_length l
    by_cases hi : i < l.length
    · have hi0 : decide ((i : Int) < (l.length : Int)) = true := decide_eq_true (by omega)
      have hF1 := Kd.C_below HC.out.1 HI.out.2.2.1
      obtain ⟨ad, A3, c3, e, hx0, hx1, hx2, hx3, hl3, hF3⟩ := at79 hF1 i hi
      cases e
      have hwl := wL79_mem l i hi
      have hwl2 := wL79_length l[i].f3
      have hcon := ih l[i] (List.getElem_mem hi)
      have e1 : l.take (i + 1) = l.take i ++ [l[i]] := (List.take_append_getElem hi).symm
      have e2 := ofL_snoc l[i] (l.take i)
      have hol := ofL_length (l.take i)
      rw [List.length_take] at hol
      have HI2 := Lib.hid HI.out
      have hba : Below wr.heap.size wr (wr.alloc (.cells #[.string l[i].f0, .string l[i].f1, .bool l[i].f2, .slice A3 l[i].f3.length c3] 79)) := (Below.refl _ _).alloc (Nat.le_refl _) _
      have hX := Blk.new wr 79 #[.string l[i].f0, .string l[i].f1, .bool l[i].f2, .slice A3 l[i].f3.length c3]
      have HX := Lib.hid hX
      have HE3 := Lib.hid (And.intro hl3 (Kd.C_below hF3 hba))
      have HCN := Lib.hid hcon
      have HE := Lib.hid (And.intro e1 (And.intro e2 (And.intro hol (And.intro hwl hwl2))))
      clear hF3 hF1 HI hl3 hba hX hcon e1 e2 hol hwl hwl2
      have hofA : ofA l[i] = if l[i].f2 = true then ⟨l[i].f0, 2, ⟨#[]⟩, (ofL l[i].f3).filter (fun a => !emptyG a)⟩ else ⟨l[i].f0, 1, l[i].f1, []⟩ := by
        generalize l[i] = a
        obtain ⟨k, v, g, m⟩ := a
        rw [ofA]
      generalize l[i] = a at *
      obtain ⟨key, v, g, m⟩ := a
      simp only at hx0 hx1 hx2 hx3 HX HE3 HCN HE hofA
      cases g with
      | true =>
        go_wp2_with fail
        have hBw : Below w.heap.size w (wr.alloc (.cells #[.string key, .string v, .bool true, .slice A3 m.length c3] 79)) := HI2.out.2.2.1.trans ((Below.refl _ _).alloc HI2.out.2.2.1.size _)
        have hNw : Kd.N k102 102 (wr.alloc (.cells #[.string key, .string v, .bool true, .slice A3 m.length c3] 79)) w.heap.size (fun k => w.heap.size ≤ k) u3 (ofL (l.take i)) := Kd.N_alloc HI2.out.2.2.2 _
        have HW := Lib.hid (And.intro hBw (And.intro hNw (And.intro HI2.out.2.1 (And.intro HE3.out.1 HE3.out.2))))
        have y0 := HX.out.cell 0
        have y3 := HX.out.cell 3
        have hgl := HX.out.lt
        have HX2 := HX
        generalize wr.heap.size = gb at y0 y3 hgl HX2 HW ⊢
        generalize wr.alloc (.cells #[.string key, .string v, .bool true, .slice A3 m.length c3] 79) = W at y0 y3 hgl HX2 HW ⊢
        clear hBw hNw HI2 hx0 hx1 hx2 hx3 HX HE3
        go_region_held3 (fun w' => w'.cell? ⟨gb, 0, none⟩ = some (.string key) ∧ w'.cell? ⟨gb, 3, none⟩ = some (.slice A3 m.length c3))
          (go_keep)
          ((first
            | (go_at_call 33
               refine (HCN.out W.drew A3 c3 (Kd.C_below HW.out.2.2.2.2 (Below.refl _ _).drew) HW.out.2.2.2.1).mono ?_
               rintro e w4 ⟨v4, rfl, hN4, hb4⟩
               have hX4 := HX2.out.drew.below hb4 hgl
               have z0 : w4.cell? ⟨gb, 0, none⟩ = some (.string key) := hX4.cell 0
               have z3 : w4.cell? ⟨gb, 3, none⟩ = some (.slice A3 m.length c3) := hX4.cell 3
               obtain ⟨A4, c4, rfl, hc4, hq4⟩ := Kd.N_reads hN4
               have H4 := Lib.hid (And.intro hN4 (And.intro hb4 (And.intro hc4 hX4)))
               clear hN4 hb4 hc4 hX4 y0 y3 hq4)
            | (go_at_call 49
               refine (groupValue49 w4 (fun k => W.heap.size ≤ k ∧ k < w4.heap.size) A4 _ c4 H4.out.2.2.1 (ofL m) (Kd.N_F (Kd.N_bound H4.out.1)) (by have := ofL_length m; have := HE.out.2.2.2; omega) (fun k hk => hk.2)).mono ?_
               rintro e w5 ⟨A5, c5, rfl, hc5, hF5, hb5⟩
               have hX5 := H4.out.2.2.2.below hb5 H4.out.2.2.2.lt
               have z0' : w5.cell? ⟨gb, 0, none⟩ = some (.string key) := hX5.cell 0
               have z3' : w5.cell? ⟨gb, 3, none⟩ = some (.slice A3 m.length c3) := hX5.cell 3
               have hb45 : Below W.heap.size W w5 := ((Below.refl W.heap.size W).drew.trans H4.out.2.1).trans (hb5.mono H4.out.2.1.size)
               have hBw5 : Below w.heap.size w w5 := HW.out.1.trans (hb45.mono HW.out.1.size)
               have hN5 : Kd.N k102 102 w5 w.heap.size (fun k => w.heap.size ≤ k) u3 (ofL (l.take i)) := Kd.N_below HW.out.2.1 hb45
               have hF5' : Kd.F k102 w5 (fun k => W.heap.size ≤ k) A5 _ ((ofL m).filter (fun a => !emptyG a)) := Kd.F_mono hF5 (fun k hk => by rcases hk with hk | hk; exact hk.1; exact Nat.le_trans H4.out.2.1.size hk)
               have H5 := Lib.hid (And.intro hc5 (And.intro hF5' (And.intro hX5 (And.intro hBw5 hN5))))
               clear hc5 hF5 hF5' hb5 hb45 hX5 hBw5 hN5 z0 z3)
            | (refine Kd.N_append_step k102 (w0 := w) (W := w5) w.heap.size (by rfl) (.tmp 14) (.tmp 22) 71 102 (.agg #[(.string ⟨#[]⟩), (.int .i64 0), (.string ⟨#[]⟩), (.slice none 0 0)]) 64 (by rfl) Tryz.underlying71 info102 rfl (by decide) (by omega) u3 (ofL (l.take i)) ⟨key, 2, ⟨#[]⟩, (ofL m).filter (fun a => !emptyG a)⟩ [.string key, .int .i64 2, .string ⟨#[]⟩, .slice A5 ((ofL m).filter (fun a => !emptyG a)).length c5] (fun k => w.heap.size ≤ k) (fun k => W.heap.size ≤ k) (by rfl) (by rfl) (k102_mkF _ _ ⟨key, 2, ⟨#[]⟩, (ofL m).filter (fun a => !emptyG a)⟩ H5.out.1 H5.out.2.1) ?aK ?aF H5.out.2.2.2.2 H5.out.2.2.2.1 H5.out.2.2.2.1.size ?aL ?_
               case aK =>
                 intro k hk
                 refine ⟨Nat.le_trans HW.out.1.size hk, fun e => ?_⟩
                 have := Kd.N_lt HW.out.2.1 k e.symm
                 omega
               case aF => exact fun k hk => Nat.le_trans H5.out.2.2.2.1.size hk
               case aL => have := HE.out.2.2.1; omega
               intro v6 w6 hN6 hB6 hg6 hat6
               have hX6 := H5.out.2.2.1.grown hg6 (Kd.N_ne H5.out.2.2.2.2 H5.out.2.2.1 (by decide))
               have x0 : w6.cell? ⟨gb, 0, none⟩ = some (.string key) := hX6.cell 0
               have x3 : w6.cell? ⟨gb, 3, none⟩ = some (.slice A3 m.length c3) := hX6.cell 3
               have H6 := Lib.hid (And.intro hN6 hB6)
               clear hN6 hB6 hg6 hat6 hX6 z0' z3')))
        go_wp2_with fail
        go_roundg (l.length - (i + 1))
        case measure => have := HW.out.2.2.1; omega
        case rel =>
          refine ⟨i + 1, by simp, hi, rfl, H6.out.2, ?_⟩
          rw [HE.out.1, HE.out.2.1, hofA]
          exact H6.out.1
      | false =>
        have hBw : Below w.heap.size w (wr.alloc (.cells #[.string key, .string v, .bool false, .slice A3 m.length c3] 79)) := HI2.out.2.2.1.trans ((Below.refl _ _).alloc HI2.out.2.2.1.size _)
        have hNw : Kd.N k102 102 (wr.alloc (.cells #[.string key, .string v, .bool false, .slice A3 m.length c3] 79)) w.heap.size (fun k => w.heap.size ≤ k) u3 (ofL (l.take i)) := Kd.N_alloc HI2.out.2.2.2 _
        have HW := Lib.hid (And.intro hBw (And.intro hNw HI2.out.2.1))
        clear hBw hNw HI2
        go_wp2_with (at_builtin; go_must (refine Kd.N_append k102 (w0 := w) w.heap.size rfl (.tmp 24) (.tmp 31) 71 102 (.agg #[(.string ⟨#[]⟩), (.int .i64 0), (.string ⟨#[]⟩), (.slice none 0 0)]) 64 rfl Tryz.underlying71 info102 rfl (by decide) (by omega) u3 (ofL (l.take i)) ⟨key, 1, v, []⟩ [.string key, .int .i64 1, .string v, .slice none 0 0] (fun k => w.heap.size ≤ k) (fun _ => False) rfl (by first | (go_simp; done) | (go_simp; rfl)) ?aP ?aK ?aF ?aO ?aB ?aS ?aL ?_))
        case aP => exact k102_mkF _ _ ⟨key, 1, v, []⟩ (Nat.le_refl _) (Kd.F_nil _ _ _)
        case aK => intro k hk; exact hk.elim
        case aF => intro k hk; exact Nat.le_trans HW.out.1.size hk
        case aO => exact HW.out.2.1
        case aB => exact HW.out.1
        case aS => exact HW.out.1.size
        case aL =>
          have := HE.out.2.2.1
          omega
        intro v5 w5 hN5 hB5 hg5 hat5
        have HW5 := Lib.hid (And.intro hN5 (And.intro hB5 HW.out.2.2))
        clear hN5 hB5 hg5 hat5 HW
        go_wp2_with fail
        go_roundg (l.length - (i + 1))
        case measure => have := HW5.out.2.2; omega
        case rel =>
          refine ⟨i + 1, by simp, hi, rfl, HW5.out.2.1, ?_⟩
          rw [HE.out.1, HE.out.2.1, hofA]
          exact HW5.out.1
    · have hi0 : decide ((i : Int) < (l.length : Int)) = false := decide_eq_false (by omega)
      have hil : i = l.length := by have := HI.out.1; omega
      subst hil
      have HI2 := Lib.hid HI.out
      clear HI
      go_wp2_with fail
      go_ret
      have := HI2.out.2.2.2
      rw [List.take_length] at this
      exact ⟨_, rfl, this, HI2.out.2.2.1⟩
theorem attrsOf33 : ∀ (n : Nat) (l : List S79), wL79 l ≤ n → wL79 l < 2 ^ 40 → OfCon l := by
  intro n
  induction n with
  | zero =>
    intro l h hw
    refine attrsOf_step l hw (fun a ha => ?_)
    have := wL79_length l
    have h0 : l = [] := List.eq_nil_of_length_eq_zero (by omega)
    rw [h0] at ha
    simp at ha
  | succ n ih =>
    intro l h hw
    refine attrsOf_step l hw (fun a ha => ?_)
    obtain ⟨i, hi, e⟩ := List.getElem_of_mem ha
    have := wL79_mem l i hi
    rw [e] at this
    exact ih a.f3 (by omega) (by omega)
end Go.Proofs.YtcllhgajdcemiaaGreatDoor.jb
