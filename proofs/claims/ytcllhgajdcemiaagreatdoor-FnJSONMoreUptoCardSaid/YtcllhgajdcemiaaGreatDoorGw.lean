/-
  Gwith: withAttrs of the JSON handler: it makes a new handler with the attributes written ahead (withA), or gives the old one where all are empty groups. Conditions: the lists are not too long, the bytes stay below 2^46.
  Gnon: Record.NumAttrs, Record.Attrs, appendNonBuiltIns of the JSON handler: what stands behind the message (restH). Conditions: the lists are not too long, the bytes stay below 2^46.
-/
import Derived.Test.YtcllhgajdcemiaaGreatDoorGg
import Derived.Test.YtcllhgajdcemiaaGreatDoorWk
namespace Go.Proofs.YtcllhgajdcemiaaGreatDoor.jb
open Go.RowKit Go.Proofs.YtcllhgajdcemiaaGreatDoorW.PrintWords
open Go.Proofs.YtcllhgajdcemiaaGreatDoor.wk (Blk bytesOf own_form)
set_option linter.unusedVariables false
set_option linter.unusedSimpArgs false
/-- the last byte of what is written is a quotation mark or a closing bracket. -/
def EndsOk (l : List UInt8) : Prop := ∃ p z, l = p ++ [z] ∧ (z = 34 ∨ z = 125)
theorem EndsOk.app {a b : List UInt8} (h : EndsOk b) : EndsOk (a ++ b) := by
  obtain ⟨p, z, rfl, hz⟩ := h
  exact ⟨a ++ p, z, by rw [List.append_assoc], hz⟩
theorem ends_quo (s : ByteArray) : EndsOk (quo s) := ⟨34 :: escL s.data.toList, 34, by simp [quo], .inl rfl⟩
mutual
theorem ends_A : ∀ (a : S102) (sep : ByteArray), goodA a = true → fullA a = true → EndsOk (outA sep a).1
  | ⟨k, n, s, l⟩, sep, hg, hf => by
    unfold goodA at hg
    unfold fullA at hf
    unfold outA
    by_cases hn : n = 2
    · subst hn
      have hl : l.isEmpty = false := by simpa using hf
      have hgl : goodL l = true := by simpa using hg
      rw [if_pos rfl, hl, if_neg (by decide)]
      split
      · exact ends_L l sep hgl hl
      · exact ⟨_, 125, rfl, .inr rfl⟩
    · rw [if_neg hn]
      exact (ends_quo s).app
theorem ends_L : ∀ (l : List S102) (sep : ByteArray), goodL l = true → l.isEmpty = false → EndsOk (outL sep l).1
  | [], sep, hg, he => by simp at he
  | a :: l, sep, hg, he => by
    unfold goodL at hg
    rw [Bool.and_eq_true, Bool.and_eq_true] at hg
    rw [outL_cons]
    cases hl : l with
    | nil => simpa [outL] using ends_A a sep hg.1.1 hg.1.2
    | cons b m =>
      rw [← hl]
      exact (ends_L l _ hg.2 (by rw [hl]; rfl)).app
end
theorem full_of (a : S102) (hg : goodA a = true) (he : emptyG a = false) : fullA a = true := by
  obtain ⟨k, n, s, l⟩ := a
  unfold goodA at hg
  unfold emptyG at he
  unfold fullA
  cases hm : l.isEmpty <;> simp_all
theorem ends_out (l : List S102) (sep : ByteArray) (hg : ∀ a, a ∈ l → goodA a = true) (he : allEmpty l = false) : EndsOk (outL sep l).1 := by
  rw [← outL_filter]
  refine ends_L _ sep (goodL_of _ (fun a ha => ?_)) he
  rw [List.mem_filter] at ha
  exact ⟨hg a ha.1, full_of a (hg a ha.1) (by simpa using ha.2)⟩
theorem EndsOk.last {l : List UInt8} (h : EndsOk l) : l.getLast? ≠ some 123 ∧ l ≠ [] := by
  obtain ⟨p, z, rfl, hz⟩ := h
  rw [List.getLast?_concat]
  refine ⟨fun e => ?_, by simp⟩
  injection e with e
  subst e
  rcases hz with h | h <;> exact absurd h (by decide)
theorem withA_ends (H : Hs) (l : List S102) (hg : ∀ a, a ∈ l → goodA a = true) (he : allEmpty l = false) : EndsOk (withA H l).bl := by
  unfold withA
  rw [he]
  exact ((ends_out l _ hg he).app).app
theorem Bf.cap {w : World} {B n c : Nat} {A : Option Addr} {bl : List UInt8} (h : Bf w B (.slice A n c) bl) : bl.length ≤ c := by
  rcases h with h | ⟨g, o, e, _⟩
  · rcases h.2 with ⟨e, h0⟩ | ⟨g, cap, cur, e, _, _, hnc, _⟩
    · omega
    · injection e with e1 e2 e3
      omega
  · injection e with e1 e2 e3
    omega
/-- the new handler, its last two fields stored. -/
theorem hd_final {w WF : World} {b' k0 : Nat} {H : Hs} {l : List S102} {A9 gA : Option Addr} {c9 : Nat} {bl' : List UInt8} (hb : Blk WF b' 68 #[.bool true, .slice A9 bl'.length c9, .string ⟨#[]⟩, .slice gA H.ns.length H.ns.length, .int .i64 k0])
    (hbf : Bf WF w.heap.size (.slice A9 bl'.length c9) bl') (hB : Below w.heap.size w WF) (hbb : w.heap.size ≤ b') (hN : Names w gA H.ns) (hbl : (withA H l) = ⟨bl', H.ns, H.ns.length⟩) (hne : bl' ≠ []) :
    Hd ((WF.setCell ⟨b', 2, none⟩ (.string ⟨#[]⟩)).setCell ⟨b', 4, none⟩ (.int .i64 (H.ns.length : Int))) b' (withA H l) ∧ Below w.heap.size w ((WF.setCell ⟨b', 2, none⟩ (.string ⟨#[]⟩)).setCell ⟨b', 4, none⟩ (.int .i64 (H.ns.length : Int))) := by
  have hBz := (hB.setCell (p := ⟨b', 2, none⟩) hbb (.string ⟨#[]⟩)).setCell (p := ⟨b', 4, none⟩) hbb (.int .i64 (H.ns.length : Int))
  have hb2 := hb.set_ 2 (.string ⟨#[]⟩)
  have hb3 := hb2.set_ 4 (.int .i64 (H.ns.length : Int))
  have hbf2 := (hbf.set_ hb (by decide) hbb 2 (.string ⟨#[]⟩)).set_ hb2 (by decide) hbb 4 (.int .i64 (H.ns.length : Int))
  rw [hbl]
  refine ⟨⟨A9, c9, gA, H.ns.length, by simpa using hb3, hbf2.cap, ⟨fun e => absurd e hne, fun _ => ?_⟩, Nat.le_refl _, hN.below hBz, Nat.le_refl _⟩, hBz⟩
  obtain ⟨g, o, e, hc⟩ := hbf2.cells hne
  injection e with e1 e2 e3
  refine ⟨g, o, e1, ?_, hc⟩
  have hlen : 0 < bl'.length := List.length_pos_iff.2 hne
  have h0 := hc 0 (.int .u8 bl'[0].toNat) (by unfold wk.bytesOf; rw [List.getElem?_map, List.getElem?_eq_getElem hlen]; rfl)
  exact World.block_lt_of_cell? _ _ h0
set_option maxRecDepth 100000 in
theorem writeNil (w : World) (bp : Nat) (hb : Blk w bp 65 #[.slice none 0 0]) : Calls Tryz.prog 42 #[.pointer (some ⟨bp, 0, none⟩), .string ⟨#[]⟩] w fun e w' => e = .returned (.tuple #[.int .i64 0, .nilIface]) ∧ w' = w.setCell ⟨bp, 0, none⟩ (.slice none 0 0) := by
  have c0 := hb.cell 0
  have f0 := hb.frozen 0
  clear hb
  go_enter Tryz.func42, Tryz.ntmps42
  go_wp2_with fail
  go_ret2
  exact ⟨rfl, rfl⟩
theorem writePfx {w : World} {B bh bs bp : Nat} {m : Md} {gs : Value} {k : Int} {fb : Bool} {sep : ByteArray} {bl : List UInt8} (h : Gst w B m bh bs bp gs k fb sep bl) :
    Calls Tryz.prog 42 #[.pointer (some ⟨bp, 0, none⟩), .string ⟨#[]⟩] w fun e w' => e = .returned (.tuple #[.int .i64 0, .nilIface]) ∧ Gst w' B m bh bs bp gs k fb sep bl ∧ Kp B w w' := by
  refine (writeNil w bp h.p).mono ?_
  rintro e w' ⟨rfl, rfl⟩
  obtain ⟨A, n, c, h1, h2⟩ := h.h
  refine ⟨rfl, ⟨h.s.far (p := ⟨bp, 0, none⟩) (h.s.ne_ h.p (by decide)) _, by simpa using h.p.set_ 0 (.slice none 0 0), ⟨A, n, c, ?_, h2.set_ h.p (by decide) h.lop 0 _⟩, h.los, h.lop, by simpa [World.setCell] using h.hz⟩, (Kp.refl B w).set_ (p := ⟨bp, 0, none⟩) h.p (by decide) h.lop _⟩
  cases m with
  | own bb pv => exact ⟨h1.1.far (p := ⟨bp, 0, none⟩) h1.2.1 _, h1.2.1, h1.2.2.1, h1.2.2.2.far (p := ⟨bp, 0, none⟩) (h1.2.2.2.ne_ h.p (by decide)) _⟩
  | field => exact ⟨h1.1.far (p := ⟨bp, 0, none⟩) (h1.1.ne_ h.p (by decide)) _, h1.2⟩
theorem attrSep_b (w : World) (b : Nat) (h : w.cell? ⟨b, 0, none⟩ = some (.bool true)) : Calls Tryz.prog 43 #[.pointer (some ⟨b, 0, none⟩)] w fun e w' => e = .returned (.string ⟨#[44]⟩) ∧ w = w' :=
  (wk.attrSep_any w b true h).mono fun _ _ ⟨h1, h2⟩ => ⟨h1, h2⟩
/-- free, entered as a deferred call: it changes nothing. -/
theorem free_d (w : World) (bs : Nat) (x0 x3 x5 : Value) (pb pp : Addr) (fb : Bool) (h : Blk w bs 87 #[x0, .pointer (some pb), .bool fb, x3, .pointer (some pp), x5]) (u : FrameMode) :
    CallsD Tryz.prog 41 #[.pointer (some ⟨bs, 0, none⟩)] u w fun e u' w' => u' = u ∧ (e = .returned (.tuple #[]) ∧ w' = w) := by
  have c1 := h.cell 1
  have c2 := h.cell 2
  have c4 := h.cell 4
  clear h
  cases fb
  · go_enter_d Tryz.func41, Tryz.ntmps41
    go_wp2
    go_end0
    go_wp2
    go_end0
    exact ⟨rfl, rfl⟩
  · go_enter_d Tryz.func41, Tryz.ntmps41
    go_wp2
    go_end0
    go_wp2
    go_end0
    go_wp2
    go_end0
    exact ⟨rfl, rfl⟩
set_option maxRecDepth 100000 in
/-- Buffer.String of an empty buffer. -/
theorem string48 (w : World) (bp : Nat) (h : Blk w bp 65 #[.slice none 0 0]) : Calls Tryz.prog 48 #[.pointer (some ⟨bp, 0, none⟩)] w fun e w' => e = .returned (.string ⟨#[]⟩) ∧ w = w' := by
  have c0 := h.cell 0
  have hcv : (convert 65 9 (.slice none 0 0)).run Tryz.prog w = .ok (.string ⟨#[]⟩) w := run_convert_bytes_nil w 65 5 Tryz.underlying65 Tryz.underlying5 0 0 9 Tryz.underlying9
  clear h
  go_enter Tryz.func48, Tryz.ntmps48
  go_wp2_with fail
  go_ret
  exact ⟨rfl, rfl⟩
theorem countE_all (l : List S102) : (countE l = l.length) ↔ allEmpty l = true := by
  unfold countE allEmpty
  induction l with
  | nil => simp
  | cons a l ih =>
    have := List.length_filter_le emptyG l
    cases h : emptyG a with
    | true =>
      rw [List.filter_cons_of_pos h, List.filter_cons_of_neg (by simp [h]), List.length_cons, List.length_cons]
      rw [← ih]
      omega
    | false =>
      rw [List.filter_cons_of_neg (by simp [h]), List.filter_cons_of_pos (by simp [h]), List.length_cons]
      simp
      omega
set_option maxRecDepth 100000 in
set_option maxHeartbeats 2000000 in
theorem withAttrs_same (w : World) (b : Nat) (l : List S102) (A : Option Addr) (n c : Nat) (hF : Kd.F k102 w (fun k => k < w.heap.size) A n l) (he : allEmpty l = true) :
    Calls Tryz.prog 32 #[.pointer (some ⟨b, 0, none⟩), .slice A n c] w fun e w' => e = .returned (.pointer (some ⟨b, 0, none⟩)) ∧ Below w.heap.size w w' := by
  have hn := Kd.F_len hF
  subst hn
  have hc := (countE_all l).2 he
  have HF := Lib.hid hF
  have HC := Lib.hid hc
  clear hF hc
  go_enter_defers Tryz.func32, Tryz.ntmps32
  go_wp2_with fail
  refine (count39 _ _ A l.length c l HF.out).mono ?_
  rintro e w1 ⟨rfl, hb1⟩
  rw [HC.out]
  have HB := Lib.hid hb1
  clear hb1
  go_wp2_with fail
  exact ⟨_, results_tmp rfl _ _ _, rfl, HB.out⟩
set_option maxRecDepth 100000 in
set_option maxHeartbeats 2000000 in
theorem withAttrs_new (w : World) (b : Nat) (H : Hs) (l : List S102) (A : Option Addr) (n c : Nat) (hH : Hd w b H) (hT : Tabs w) (hB6 : 6 ≤ w.heap.size) (hF : Kd.F k102 w (fun k => k < w.heap.size) A n l) (hg : ∀ a, a ∈ l → goodA a = true) (he : allEmpty l = false)
    (hla : H.bl.getLast? ≠ some 123) (hlen : H.bl.length + bulkG (H.ns.drop H.k) + bulkL l ≤ 70368744177664) :
    Calls Tryz.prog 32 #[.pointer (some ⟨b, 0, none⟩), .slice A n c] w fun e w' => ∃ b', e = .returned (.pointer (some ⟨b', 0, none⟩)) ∧ Hd w' b' (withA H l) ∧ Below w.heap.size w w' := by
  have hn := Kd.F_len hF
  subst hn
  have hc : ¬ countE l = l.length := fun h => by rw [(countE_all l).1 h] at he; cases he
  have hc1 : ((countE l : Int) == (l.length : Int)) = false := beq_eq_false_iff_ne.2 (by omega)
  obtain ⟨pA, pc, gA, gc, h1, h2, h3, h4, h5, h6⟩ := hH
  have HF := Lib.hid hF
  have H1 := Lib.hid h1
  have HP := Lib.hid (And.intro h2 (And.intro h3 (And.intro h4 (And.intro h5 h6))))
  have HT := Lib.hid hT
  have HL := Lib.hid hlen
  have HE := Lib.hid he
  have HLA := Lib.hid hla
  have HG := Lib.hid hg
  clear hF h1 h2 h3 h4 h5 h6 hT hlen he hla hg hc
  go_enter_defers Tryz.func32, Tryz.ntmps32
  go_wp2_with fail
  refine (count39 _ _ A l.length c l HF.out).mono ?_
  rintro e w1 ⟨rfl, hb1⟩
  have HB := Lib.hid hb1
  clear hb1
  go_wp2_with fail
  have hBk := H1.out.below HB.out H1.out.lt
  refine (clone38 w1 b pA H.bl.length pc HP.out.1 gA H.ns.length gc HP.out.2.2.1 (H.k : Int) hBk).mono ?_
  rintro e w2 ⟨b', rfl, hb', hB', hbel2⟩
  have hwB : Below w.heap.size w w2 := HB.out.trans (hbel2.mono HB.out.size)
  have hbw : w.heap.size ≤ b' := Nat.le_trans HB.out.size hb'
  have HW := Lib.hid (And.intro hwB (And.intro hbw hB'))
  clear hBk hb' hB' hbel2 hwB hbw HB
  go_wp2_with fail
  refine (wk.newState_any w2 ⟨b', 0, none⟩ ⟨b', 1, none⟩ false ⟨#[]⟩).mono ?_
  rintro e w3 ⟨bp, hbp, rfl, hP3, hb3⟩
  have HW3 := Lib.hid (And.intro (HW.out.1.trans (hb3.mono HW.out.1.size)) (And.intro (HW.out.2.2.below hb3 HW.out.2.2.lt) (And.intro hP3 (And.intro (Nat.le_trans HW.out.1.size hbp) HW.out.2.1))))
  clear hP3 hb3 hbp HW
  go_wp2_with fail
  generalize hbs : w3.heap.size = bs at *
  have hba : Below w3.heap.size w3 (w3.alloc (.cells #[.pointer (some ⟨b', 0, none⟩), .pointer (some ⟨b', 1, none⟩), .bool false, .string ⟨#[]⟩, .pointer (some ⟨bp, 0, none⟩), .pointer none] 87)) := (Below.refl _ _).alloc (Nat.le_refl _) _
  have hS4 := Blk.new w3 87 #[.pointer (some ⟨b', 0, none⟩), .pointer (some ⟨b', 1, none⟩), .bool false, .string ⟨#[]⟩, .pointer (some ⟨bp, 0, none⟩), .pointer none]
  rw [hbs] at hS4
  have hP4 := HW3.out.2.2.1.below hba HW3.out.2.2.1.lt
  have hb4 := HW3.out.2.1.below hba HW3.out.2.1.lt
  have ho4 := (H1.out.below HW3.out.1 H1.out.lt).below hba (Nat.lt_of_lt_of_le H1.out.lt HW3.out.1.size)
  have hB4 : Below w.heap.size w (w3.alloc (.cells #[.pointer (some ⟨b', 0, none⟩), .pointer (some ⟨b', 1, none⟩), .bool false, .string ⟨#[]⟩, .pointer (some ⟨bp, 0, none⟩), .pointer none] 87)) := HW3.out.1.trans (hba.mono HW3.out.1.size)
  have hbsB : w.heap.size ≤ bs := by rw [← hbs]; exact HW3.out.1.size
  generalize w3.alloc (.cells #[.pointer (some ⟨b', 0, none⟩), .pointer (some ⟨b', 1, none⟩), .bool false, .string ⟨#[]⟩, .pointer (some ⟨bp, 0, none⟩), .pointer none] 87) = W4 at *
  have hG4 : Gst W4 w.heap.size .field b' bs bp (.slice gA H.ns.length H.ns.length) (H.k : Int) false ⟨#[]⟩ H.bl :=
    ⟨hS4, hP4, ⟨pA, H.bl.length, H.bl.length, ⟨hb4, HW3.out.2.2.2.2⟩, (HP.out.2.1.Bf).below hB4 (Nat.le_refl _)⟩, hbsB, HW3.out.2.2.2.1, hB4.size⟩
  have y4 := hS4.cell 4
  have x2 := ho4.cell 2
  have H4 := Lib.hid (And.intro hG4 (And.intro ho4 hB4))
  have H1lt := Lib.hid H1.out.lt
  clear hba hS4 hP4 hb4 ho4 hB4 HW3 hbsB hG4
  go_region_held3 (fun w' => w'.cell? ⟨bs, 4, none⟩ = some (.pointer (some ⟨bp, 0, none⟩)) ∧ w'.cell? ⟨b, 2, none⟩ = some (.string ⟨#[]⟩))
    (go_keep)
    ((first
      | (go_at_call 42
         refine (writePfx H4.out.1.drew).mono ?_
         rintro e W5 ⟨rfl, hG5, hK5⟩
         have ho5 := H4.out.2.1.drew.below hK5.b H1lt.out
         have n4 : W5.cell? ⟨bs, 4, none⟩ = some (.pointer (some ⟨bp, 0, none⟩)) := hG5.cells.2.2.2.1
         have n2 : W5.cell? ⟨b, 2, none⟩ = some (.string ⟨#[]⟩) := ho5.cell 2
         have H5 := Lib.hid (And.intro hG5 (And.intro ho5 (H4.out.2.2.drew.trans hK5.b)))
         clear hG5 ho5 hK5)))
  clear n4 n2 y4 x2 H4
  obtain ⟨Aw, nw, cw, hw1, hw2⟩ := H5.out.1.h
  obtain ⟨Aw', cw', hwe⟩ := hw2.form
  injection hwe with e1 e2 e3
  subst e1 e2 e3
  have w1c : W5.cell? ⟨b', 1, none⟩ = some (.slice Aw H.bl.length cw) := hw1.1.cell 1
  have HBf := Lib.hid hw2
  obtain ⟨c0, c1, c3, c4, c5, d0, p0, f3, d3, d4, d2⟩ := H5.out.1.cells
  clear hw1 hw2
  by_cases hbl : H.bl = []
  · have hlen0 : decide ((H.bl.length : Int) > 0) = false := by rw [hbl]; rfl
    have hlen1 : decide (0 < H.bl.length) = false := by rw [hbl]; rfl
    go_wp2_with fail
    have HS := Lib.hid (show Gst W5 w.heap.size .field b' bs bp (.slice gA H.ns.length H.ns.length) (H.k : Int) false (sepH H.bl) H.bl ∧ Below w.heap.size w W5 from ⟨by have := H5.out.1; rw [hbl] at this ⊢; exact this, H5.out.2.2⟩)
    clear c0 c1 c3 c4 c5 d0 p0 f3 d3 d4 d2 w1c HBf H5
    generalize W5 = WC at HS ⊢
    refine (len_g HS.out.1).mono ?_
    rintro e WD ⟨rfl, rfl⟩
    go_wp2_with fail
    have hgl := outG_len (H.ns.drop H.k) (sepH H.bl) (by unfold sepH; split <;> decide)
    have hgs := outG_sep (H.ns.drop H.k) (sepH H.bl) (by unfold sepH; split <;> decide)
    refine (openGroups_g gA H.ns.length H.ns H.k HP.out.2.2.2.2 (Nat.le_refl _) HS.out.1 (by unfold sepH; split <;> decide) (HT.out.below HS.out.2 hB6) hB6 (Kd.F_below HP.out.2.2.2.1.F HS.out.2) (by have := HL.out; omega)).mono ?_
    rintro e WE ⟨rfl, hGE, hKE⟩
    have HE2 := Lib.hid (And.intro hGE (And.intro (HS.out.2.trans hKE.b) (And.intro hgl hgs)))
    clear hGE hKE hgl hgs HS
    go_wp2_with fail
    refine (appendAttrs_g hB6 l HG.out WE _ _ A l.length c HE2.out.1 HE2.out.2.2.2 (HT.out.below HE2.out.2.1 hB6) (by have := HL.out; have := HE2.out.2.2.1; rw [List.length_append]; omega) (Kd.F_below HF.out HE2.out.2.1)).mono ?_
    rintro e WF ⟨rfl, hGF, hKF⟩
    have hne : l.isEmpty = false := by
      cases hl : l with
      | nil => rw [hl] at hc1; simp [countE] at hc1
      | cons x y => rfl
    rw [hne]
    have HF2 := Lib.hid (And.intro hGF (HE2.out.2.1.trans hKF.b))
    obtain ⟨c0, c1, c3, c4, c5, d0, p0, f3, d3, d4, d2⟩ := hGF.cells
    clear hGF hKF HE2 hne
    go_wp2_with fail
    refine (string48 WF bp HF2.out.1.p).mono ?_
    rintro e WG ⟨rfl, rfl⟩
    obtain ⟨A9, n9, c9, hh, hbf⟩ := HF2.out.1.h
    obtain ⟨A9', c9', hee⟩ := hbf.form
    injection hee with e1 e2 e3
    subst e1 e2 e3
    have g2 := hh.1.frozen 2
    have g4 := hh.1.frozen 4
    have HH := Lib.hid (And.intro hh (And.intro hbf (And.intro (HF2.out.2) HF2.out.1.s)))
    clear hh hbf HF2
    go_wp2_with fail
    refine leaves_cons (f := 41) (args := #[.pointer (some ⟨bs, 0, none⟩)]) (by simp) (by simp [go_sem]) ?_
    have hSZ := (HH.out.2.2.2.far (p := ⟨b', 2, none⟩) (HH.out.2.2.2.ne_ HH.out.1.1 (by decide)) (.string ⟨#[]⟩)).far (p := ⟨b', 4, none⟩) (HH.out.2.2.2.ne_ HH.out.1.1 (by decide)) (.int .i64 (H.ns.length : Int))
    refine (free_d _ bs _ _ _ _ _ false hSZ .returning).mono ?_
    rintro e u' w'' ⟨rfl, rfl, rfl⟩
    have hend := withA_ends H l HG.out HE.out
    have hwa : withA H l = ⟨H.bl ++ ((outG (sepH H.bl) (H.ns.drop H.k)).1 ++ (outL (outG (sepH H.bl) (H.ns.drop H.k)).2 l).1), H.ns, H.ns.length⟩ := by unfold withA; rw [HE.out]; rfl
    rw [hwa] at hend
    have hlast := hend.last.2
    have hq := HH.out.1.1
    have hq2 := HH.out.2.1
    rw [List.append_assoc] at hq hq2
    have hfin := hd_final hq hq2 HH.out.2.2.1 HH.out.1.2 HP.out.2.2.2.1 hwa hlast
    exact ⟨_, results_tmp rfl _ _ _, b', rfl, hfin.1, hfin.2⟩
  · have hpos : 0 < H.bl.length := List.length_pos_iff.2 hbl
    have hlen1 : decide (0 < H.bl.length) = true := decide_eq_true hpos
    go_wp2_with fail
    refine (attrSep_b W5 b (H5.out.2.1.cell 0)).mono ?_
    rintro e W5' ⟨rfl, rfl⟩
    have hS6 := H5.out.1.setSep ⟨#[44]⟩
    have hx2 := HBf.out.set_ H5.out.1.s (by decide) H5.out.1.los 3 (.string ⟨#[44]⟩)
    obtain ⟨gx, ox, hxe, hxc⟩ := hx2.cells hbl
    injection hxe with e1 e2 e3
    subst e1
    have hlast : ∃ z, H.bl[H.bl.length - 1]? = some z ∧ z ≠ 123 := by
      rw [← List.getLast?_eq_getElem?]
      cases hz : H.bl.getLast? with
      | none => rw [List.getLast?_eq_none_iff] at hz; exact absurd hz hbl
      | some z => exact ⟨z, rfl, fun e => HLA.out (by rw [hz, e])⟩
    obtain ⟨z, hz, hz123⟩ := hlast
    have hxl := hxc (H.bl.length - 1) (.int .u8 z.toNat) (by unfold wk.bytesOf; rw [List.getElem?_map, hz]; rfl)
    have hzn : ((z.toNat : Int) == 123) = false := beq_eq_false_iff_ne.2 (fun e => hz123 (by
      have : z.toNat = 123 := by omega
      exact UInt8.toNat_inj.1 this))
    have H6 := Lib.hid (And.intro hS6.1 (H5.out.2.2.trans hS6.2.b))
    obtain ⟨c0, c1, c3, c4, c5, d0, p0, f3', d3, d4, d2⟩ := hS6.1.cells
    have hLm : H.bl.length ≤ 70368744177664 := by have := HL.out; omega
    have hi1 : wrap64 ((H.bl.length : Int) - 1) = ((H.bl.length - 1 : Nat) : Int) := by
      rw [IntWalk.wrap64_in _ ⟨by omega, by omega⟩]
      omega
    have hi2 : ((H.bl.length - 1 : Nat) : Int) < (H.bl.length : Int) := by omega
    clear e3 hS6 hx2 hxc w1c hLm
    go_wp2_with fail
    have HS := Lib.hid (show Gst (W5.setCell ⟨bs, 3, none⟩ (.string ⟨#[44]⟩)) w.heap.size .field b' bs bp (.slice gA H.ns.length H.ns.length) (H.k : Int) false (sepH H.bl) H.bl ∧ Below w.heap.size w (W5.setCell ⟨bs, 3, none⟩ (.string ⟨#[44]⟩)) from ⟨by
      have := H6.out.1
      have e : sepH H.bl = ⟨#[44]⟩ := by unfold sepH; rw [if_neg (by simpa using hbl)]
      rw [e]; exact this, H6.out.2⟩)
    clear c0 c1 c3 c4 c5 d0 p0 f3 d3 d4 d2 HBf H5 H6 hxl hzn hi1 hi2 f3' hz
    generalize W5.setCell ⟨bs, 3, none⟩ (.string ⟨#[44]⟩) = WC at HS ⊢
    refine (len_g HS.out.1).mono ?_
    rintro e WD ⟨rfl, rfl⟩
    go_wp2_with fail
    have hgl := outG_len (H.ns.drop H.k) (sepH H.bl) (by unfold sepH; split <;> decide)
    have hgs := outG_sep (H.ns.drop H.k) (sepH H.bl) (by unfold sepH; split <;> decide)
    refine (openGroups_g gA H.ns.length H.ns H.k HP.out.2.2.2.2 (Nat.le_refl _) HS.out.1 (by unfold sepH; split <;> decide) (HT.out.below HS.out.2 hB6) hB6 (Kd.F_below HP.out.2.2.2.1.F HS.out.2) (by have := HL.out; omega)).mono ?_
    rintro e WE ⟨rfl, hGE, hKE⟩
    have HE2 := Lib.hid (And.intro hGE (And.intro (HS.out.2.trans hKE.b) (And.intro hgl hgs)))
    clear hGE hKE hgl hgs HS
    go_wp2_with fail
    refine (appendAttrs_g hB6 l HG.out WE _ _ A l.length c HE2.out.1 HE2.out.2.2.2 (HT.out.below HE2.out.2.1 hB6) (by have := HL.out; have := HE2.out.2.2.1; rw [List.length_append]; omega) (Kd.F_below HF.out HE2.out.2.1)).mono ?_
    rintro e WF ⟨rfl, hGF, hKF⟩
    have hne : l.isEmpty = false := by
      cases hl : l with
      | nil => rw [hl] at hc1; simp [countE] at hc1
      | cons x y => rfl
    rw [hne]
    have HF2 := Lib.hid (And.intro hGF (HE2.out.2.1.trans hKF.b))
    obtain ⟨c0, c1, c3, c4, c5, d0, p0, f3, d3, d4, d2⟩ := hGF.cells
    clear hGF hKF HE2 hne
    go_wp2_with fail
    refine (string48 WF bp HF2.out.1.p).mono ?_
    rintro e WG ⟨rfl, rfl⟩
    obtain ⟨A9, n9, c9, hh, hbf⟩ := HF2.out.1.h
    obtain ⟨A9', c9', hee⟩ := hbf.form
    injection hee with e1 e2 e3
    subst e1 e2 e3
    have g2 := hh.1.frozen 2
    have g4 := hh.1.frozen 4
    have HH := Lib.hid (And.intro hh (And.intro hbf (And.intro (HF2.out.2) HF2.out.1.s)))
    clear hh hbf HF2
    go_wp2_with fail
    refine leaves_cons (f := 41) (args := #[.pointer (some ⟨bs, 0, none⟩)]) (by simp) (by simp [go_sem]) ?_
    have hSZ := (HH.out.2.2.2.far (p := ⟨b', 2, none⟩) (HH.out.2.2.2.ne_ HH.out.1.1 (by decide)) (.string ⟨#[]⟩)).far (p := ⟨b', 4, none⟩) (HH.out.2.2.2.ne_ HH.out.1.1 (by decide)) (.int .i64 (H.ns.length : Int))
    refine (free_d _ bs _ _ _ _ _ false hSZ .returning).mono ?_
    rintro e u' w'' ⟨rfl, rfl, rfl⟩
    have hend := withA_ends H l HG.out HE.out
    have hwa : withA H l = ⟨H.bl ++ ((outG (sepH H.bl) (H.ns.drop H.k)).1 ++ (outL (outG (sepH H.bl) (H.ns.drop H.k)).2 l).1), H.ns, H.ns.length⟩ := by unfold withA; rw [HE.out]; rfl
    rw [hwa] at hend
    have hlast := hend.last.2
    have hq := HH.out.1.1
    have hq2 := HH.out.2.1
    rw [List.append_assoc] at hq hq2
    have hfin := hd_final hq hq2 HH.out.2.2.1 HH.out.1.2 HP.out.2.2.2.1 hwa hlast
    exact ⟨_, results_tmp rfl _ _ _, b', rfl, hfin.1, hfin.2⟩
/-- withAttrs. -/
theorem withAttrs_g (w : World) (b : Nat) (H : Hs) (l : List S102) (A : Option Addr) (n c : Nat) (hH : Hd w b H) (hT : Tabs w) (hB6 : 6 ≤ w.heap.size) (hF : Kd.F k102 w (fun k => k < w.heap.size) A n l) (hg : ∀ a, a ∈ l → goodA a = true)
    (hla : H.bl.getLast? ≠ some 123) (hlen : H.bl.length + bulkG (H.ns.drop H.k) + bulkL l ≤ 70368744177664) :
    Calls Tryz.prog 32 #[.pointer (some ⟨b, 0, none⟩), .slice A n c] w fun e w' => ∃ b', e = .returned (.pointer (some ⟨b', 0, none⟩)) ∧ Hd w' b' (withA H l) ∧ Below w.heap.size w w' := by
  cases he : allEmpty l with
  | true =>
    refine (withAttrs_same w b l A n c hF he).mono ?_
    rintro e w' ⟨rfl, hb⟩
    have : withA H l = H := by unfold withA; rw [he]; rfl
    rw [this]
    exact ⟨b, rfl, hH.below hb, hb⟩
  | false => exact withAttrs_new w b H l A n c hH hT hB6 hF hg he hla hlen
theorem withA_last (H : Hs) (l : List S102) (hg : ∀ a, a ∈ l → goodA a = true) (hla : H.bl.getLast? ≠ some 123) : (withA H l).bl.getLast? ≠ some 123 := by
  cases he : allEmpty l with
  | true =>
    have : withA H l = H := by unfold withA; rw [he]; rfl
    rw [this]
    exact hla
  | false => exact (withA_ends H l hg he).last.1
end Go.Proofs.YtcllhgajdcemiaaGreatDoor.jb

namespace Go.Proofs.YtcllhgajdcemiaaGreatDoor.jb
open Go.RowKit Go.Proofs.YtcllhgajdcemiaaGreatDoorW.PrintWords
open Go.Proofs.YtcllhgajdcemiaaGreatDoor.wk (Blk bytesOf own_form)
set_option linter.unusedVariables false
set_option linter.unusedSimpArgs false
set_option maxRecDepth 100000 in
theorem numAttrs72 (w : World) (m lv : Value) (A : Option Addr) (n c : Nat) : Calls Tryz.prog 72 #[.agg #[m, lv, .slice A n c]] w fun e w' => e = .returned (.int .i64 n) ∧ Below w.heap.size w w' := by
  go_enter Tryz.func72, Tryz.ntmps72
  go_wp2
  go_ret
  exact ⟨rfl, (Below.refl _ _).alloc (Nat.le_refl _) _⟩

section
variable {w w' w1 : World} {B bh bs bp : Nat} {m : Md} {gs v : Value} {k : Int} {fb : Bool} {sep sep' : ByteArray} {bl bl' : List UInt8}
/-- the state, and the two variables that the closure has captured. -/
structure Nst (w : World) (B : Nat) (m : Md) (bh bs bp : Nat) (gs : Value) (k : Int) (fb : Bool) (sep : ByteArray) (bl : List UInt8) (sb eb : Nat) (x : Bool) : Prop where
  g : Gst w B m bh bs bp gs k fb sep bl
  s : Blk w sb 111 #[.pointer (some ⟨bs, 0, none⟩)]
  e : Blk w eb 4 #[.bool x]
  he : B ≤ eb
theorem Nst.below {sb eb : Nat} {x : Bool} (h : Nst w B m bh bs bp gs k fb sep bl sb eb x) (hb : Below w.heap.size w w') : Nst w' B m bh bs bp gs k fb sep bl sb eb x :=
  ⟨h.g.below hb, h.s.below hb h.s.lt, h.e.below hb h.e.lt, h.he⟩
theorem Nst.next {sb eb : Nat} {x : Bool} (h : Nst w B m bh bs bp gs k fb sep bl sb eb x) (hg : Gst w' B m bh bs bp gs k fb sep' bl') (hk : Kp B w w') : Nst w' B m bh bs bp gs k fb sep' bl' sb eb x :=
  ⟨hg, hk.k h.s (by decide), hk.k h.e (by decide), h.he⟩
theorem Gst.setOther (h : Gst w B m bh bs bp gs k fb sep bl) {g t : Nat} {cs : Array Value} (hb : Blk w g t cs) (ht : t ≠ 5) (ht2 : t ≠ 65) (ht3 : t ≠ 68) (ht4 : t ≠ 87) (hg : B ≤ g) (i : Nat) (u : Value) : Gst (w.setCell ⟨g, i, none⟩ u) B m bh bs bp gs k fb sep bl := by
  obtain ⟨A, n, c, h1, h2⟩ := h.h
  exact ⟨h.s.far (p := ⟨g, i, none⟩) (h.s.ne_ hb (Ne.symm ht4)) _, h.p.far (p := ⟨g, i, none⟩) (h.p.ne_ hb (Ne.symm ht2)) _, ⟨A, n, c, h1.far hb ht2 ht3 i u, h2.set_ hb ht hg i u⟩, h.los, h.lop, by simpa [World.setCell] using h.hz⟩
set_option maxRecDepth 100000 in
theorem closure74 {sb eb : Nat} {x : Bool} (a : S102) (A : Option Addr) (c : Nat) (h : Nst w B m bh bs bp gs k fb sep bl sb eb x) (hsep : sep.size ≤ 1) (hT : Tabs w) (hB6 : 6 ≤ B) (hg : goodA a = true) (hlen : bl.length + bulkA a ≤ 70368744177664) (hF : Kd.F k102 w (fun k => k < B) A a.f3.length a.f3) :
    Calls Tryz.prog 74 #[.agg #[.string a.f0, .int .i64 a.f1, .string a.f2, .slice A a.f3.length c], .pointer (some ⟨sb, 0, none⟩), .pointer (some ⟨eb, 0, none⟩)] w fun e w' => e = .returned (.bool true) ∧ Nst w' B m bh bs bp gs k fb (outA sep a).2 (bl ++ (outA sep a).1) sb eb false ∧ Below B w w' := by
  have c0 := h.s.cell 0
  have hlt := h.s.lt
  have hba : Below w.heap.size w (w.alloc (.cells #[.string a.f0, .int .i64 a.f1, .string a.f2, .slice A a.f3.length c] 102)) := (Below.refl _ _).alloc (Nat.le_refl _) _
  have HH := Lib.hid (h.below hba)
  have HBa := Lib.hid (hba.mono h.g.hz)
  have k62 := Lib.hid (attr_con hB6 a hg _ sep bl A c (h.g.below hba) hsep (hT.below (hba.mono h.g.hz) hB6) hlen (Kd.F_below hF hba))
  clear h hT hF hba
  go_enter Tryz.func74, Tryz.ntmps74
  go_wp2_with fail
  generalize w.alloc (.cells #[.string a.f0, .int .i64 a.f1, .string a.f2, .slice A a.f3.length c] 102) = w1 at *
  obtain ⟨ka, kn, ks, kl⟩ := a
  refine k62.out.mono ?_
  rintro e w2 ⟨rfl, hG2, hK2⟩
  have hN2 := HH.out.next hG2 hK2
  have fe := hN2.e.frozen 0
  have ce := hN2.e.cell 0
  have H2 := Lib.hid (And.intro hN2 (HBa.out.trans hK2.b))
  clear hG2 hK2 hN2 k62 HH
  go_wp2_with fail
  go_ret
  refine ⟨rfl, ⟨H2.out.1.g.setOther H2.out.1.e (by decide) (by decide) (by decide) (by decide) H2.out.1.he 0 _, H2.out.1.s.far (p := ⟨eb, 0, none⟩) (H2.out.1.s.ne_ H2.out.1.e (by decide)) _, by simpa using H2.out.1.e.set_ 0 (.bool false), H2.out.1.he⟩, H2.out.2.setCell (p := ⟨eb, 0, none⟩) H2.out.1.he _⟩
set_option maxRecDepth 100000 in
set_option maxHeartbeats 2000000 in
theorem attrs73 {sb eb : Nat} (l : List S102) (ms lv : Value) (A : Option Addr) (c : Nat) (h : Nst w B m bh bs bp gs k fb sep bl sb eb true) (hsep : sep.size ≤ 1) (hT : Tabs w) (hB6 : 6 ≤ B) (hg : ∀ a, a ∈ l → goodA a = true) (hl : l.isEmpty = false) (hlen : bl.length + bulkL l ≤ 70368744177664) (hF : Kd.F k102 w (fun k => k < B) A l.length l) :
    Calls Tryz.prog 73 #[.agg #[ms, lv, .slice A l.length c], .func (.func 74) #[] #[.pointer (some ⟨sb, 0, none⟩), .pointer (some ⟨eb, 0, none⟩)]] w fun e w' => e = .returned (.tuple #[]) ∧ Nst w' B m bh bs bp gs k fb (outL sep l).2 (bl ++ (outL sep l).1) sb eb false ∧ Below B w w' := by
  have hM := Kd.F_max hF
  have hba : Below w.heap.size w (w.alloc (.cells #[ms, lv, .slice A l.length c] 75)) := (Below.refl _ _).alloc (Nat.le_refl _) _
  have HH := Lib.hid (h.below hba)
  have HBa := Lib.hid (hba.mono h.g.hz)
  have HT := Lib.hid hT
  have HL := Lib.hid hlen
  have HF := Lib.hid (Kd.F_below hF hba)
  have HG := Lib.hid hg
  have HS := Lib.hid hsep
  have HE := Lib.hid hl
  clear h hT hF hba hg hsep hlen hl
  go_enter Tryz.func73, Tryz.ntmps73
  go_wp2_with fail
  go_loopg [9] (l.length) (fun j v9 wr => ∃ i : Nat, v9 = .int .i64 i ∧ Aside (i ≤ l.length ∧ j = l.length - i ∧ Nst wr B m bh bs bp gs k fb (outL sep (l.take i)).2 (bl ++ (outL sep (l.take i)).1) sb eb (l.take i).isEmpty ∧ Below B w wr))
  case atStart => exact ⟨0, rfl, Nat.zero_le _, rfl, by simpa [outL] using HH.out, HBa.out⟩
  case round =>
    obtain ⟨i, rfl, HI⟩ := hrel
    by_cases hi : i < l.length
    · have hi0 : decide ((i : Int) < (l.length : Int)) = true := decide_eq_true (by omega)
      have hF0 : Kd.F k102 wr (fun k => k < B) A l.length l := Kd.F_step HF.out (fun k hk _ => by
        have e1 := HI.out.2.2.2.block k hk
        have e2 := HBa.out.block k hk
        rw [e1, e2])
      obtain ⟨ad, A3, c3, e, hx0, hx1, hx2, hx3, hl3, hF3⟩ := at_F102 hF0 i hi
      cases e
      have hba : Below wr.heap.size wr (wr.alloc (.cells #[.string l[i].f0, .int .i64 l[i].f1, .string l[i].f2, .slice A3 l[i].f3.length c3] 102)) := (Below.refl _ _).alloc (Nat.le_refl _) _
      have hN := HI.out.2.2.1.below hba
      have hBw : Below B w (wr.alloc (.cells #[.string l[i].f0, .int .i64 l[i].f1, .string l[i].f2, .slice A3 l[i].f3.length c3] 102)) := HI.out.2.2.2.trans (hba.mono HI.out.2.2.1.g.hz)
      have hlen2 : bl.length + (outL sep (l.take i)).1.length + bulkA l[i] ≤ 70368744177664 := by
        have q1 := outL_len (l.take i) sep HS.out
        have q2 := bulkL_take l i hi
        have q3 := HL.out
        omega
      have k74 := Lib.hid (closure74 l[i] A3 c3 hN (outL_sep _ _ HS.out) (HT.out.below hBw hB6) hB6 (HG.out l[i] (List.getElem_mem hi)) (by rw [List.length_append]; exact hlen2) (Kd.F_below hF3 hba))
      have HW := Lib.hid (And.intro hBw HI.out.2.1)
      have e1 : l.take (i + 1) = l.take i ++ [l[i]] := (List.take_append_getElem hi).symm
      have e2 := outL_snoc l[i] (l.take i) sep
      have HK := Lib.hid (And.intro e1 e2)
      clear hF0 hF3 hba hN hBw hlen2 HI e1 e2
      go_wp2_with (go_at_call 74; go_must (refine k74.out.mono ?_; rintro e w2 ⟨rfl, hN2, hB2⟩))
      have HN2 := Lib.hid (And.intro hN2 (HW.out.1.trans hB2))
      have HJ := Lib.hid HW.out.2
      clear hN2 hB2 k74 HW hx0 hx1 hx2 hx3
      go_roundg (l.length - (i + 1))
      case measure => have := HJ.out; omega
      case rel =>
        refine ⟨i + 1, ?_, hi, rfl, ?_, HN2.out.2⟩
        · first
          | simp
          | (rw [IntWalk.wrap64_in _ ⟨by omega, by omega⟩]; simp)
        · have e3 : (l.take i ++ [l[i]]).isEmpty = false := by cases l.take i <;> rfl
          rw [HK.out.1, HK.out.2, e3]
          have := HN2.out.1
          rw [List.append_assoc] at this
          exact this
    · have hi0 : decide ((i : Int) < (l.length : Int)) = false := decide_eq_false (by omega)
      have hil : i = l.length := by have := HI.out.1; omega
      subst hil
      have HN := Lib.hid HI.out
      clear HI
      go_wp2_with fail
      go_end0
      have := HN.out.2.2.1
      rw [List.take_length, HE.out] at this
      exact ⟨rfl, this, HN.out.2.2.2⟩
theorem Gst.cells_own {bb : Nat} {pv : Value} (h : Gst w B (.own bb pv) bh bs bp gs k fb sep bl) :
    w.cell? ⟨bs, 0, none⟩ = some (.pointer (some ⟨bh, 0, none⟩)) ∧ w.cell? ⟨bs, 1, none⟩ = some (.pointer (some ⟨bb, 0, none⟩)) ∧ w.cell? ⟨bs, 3, none⟩ = some (.string sep) ∧
    w.cell? ⟨bs, 4, none⟩ = some (.pointer (some ⟨bp, 0, none⟩)) ∧ w.cell? ⟨bs, 5, none⟩ = some (.pointer none) ∧ w.cell? ⟨bh, 0, none⟩ = some (.bool true) ∧ w.cell? ⟨bp, 0, none⟩ = some (.slice none 0 0) ∧
    w.frozen? ⟨bs, 3, none⟩ = false ∧ w.cell? ⟨bh, 3, none⟩ = some gs ∧ w.cell? ⟨bh, 4, none⟩ = some (.int .i64 k) ∧ w.cell? ⟨bh, 2, none⟩ = some (.string ⟨#[]⟩) ∧ w.cell? ⟨bh, 1, none⟩ = some pv := by
  obtain ⟨c0, c1, c3, c4, c5, d0, p0, f3, d3, d4, d2⟩ := h.cells
  obtain ⟨A0, n0, c0', h1, h2⟩ := h.h
  exact ⟨c0, c1, c3, c4, c5, d0, p0, f3, d3, d4, d2, h1.2.2.2.cell 1⟩
set_option maxRecDepth 100000 in
set_option maxHeartbeats 4000000 in
theorem nonBuiltIns_a (H : Hs) (pA gA : Option Addr) (pc gc : Nat) (l : List S102) (ms lv : Value) (A : Option Addr) (c : Nat) (bb : Nat) (h : Gst w B (.own bb (.slice pA H.bl.length pc)) bh bs bp (.slice gA H.ns.length gc) (H.k : Int) fb ⟨#[44]⟩ bl) (hbhB : bh < B) (hP : Pf w pA H.bl) (hPB : ∀ g o, pA = some ⟨g, o, none⟩ → g < B) (hla : H.bl.getLast? ≠ some 123) (hN : Kd.F Kd.string w (fun k => k < B) gA H.ns.length H.ns) (hgc : H.ns.length ≤ gc) (hk : H.k ≤ H.ns.length)
    (hT : Tabs w) (hB6 : 6 ≤ B) (hg : ∀ a, a ∈ l → goodA a = true) (hF : Kd.F k102 w (fun k => k < B) A l.length l) (hlen : bl.length + H.bl.length + bulkG (H.ns.drop H.k) + bulkL l + H.ns.length + 10 ≤ 70368744177664) :
    Calls Tryz.prog 56 #[.pointer (some ⟨bs, 0, none⟩), .agg #[ms, lv, .slice A l.length c]] w fun e w' => e = .returned (.tuple #[]) ∧ ∃ sep', Gst w' B (.own bb (.slice pA H.bl.length pc)) bh bs bp (.slice gA H.ns.length gc) (H.k : Int) fb sep' (bl ++ (restH H l ++ [125])) ∧ Below B w w' := by
  obtain ⟨c0, c1, c3, c4, c5, d0, p0, f3, d3, d4, d2, d1⟩ := h.cells_own
  have hbsl := h.s.lt
  have hbhl : bh < w.heap.size := Nat.lt_of_lt_of_le hbhB h.hz
  have hba : Below w.heap.size w ((w.alloc (.cells #[.pointer (some ⟨bs, 0, none⟩)] 111)).alloc (.cells #[ms, lv, .slice A l.length c] 75)) := ((Below.refl _ w).alloc (Nat.le_refl _) _).alloc (by simp) _
  have hsb : Blk ((w.alloc (.cells #[.pointer (some ⟨bs, 0, none⟩)] 111)).alloc (.cells #[ms, lv, .slice A l.length c] 75)) w.heap.size 111 #[.pointer (some ⟨bs, 0, none⟩)] := (Blk.new w 111 _).alloc _
  have hrb : Blk ((w.alloc (.cells #[.pointer (some ⟨bs, 0, none⟩)] 111)).alloc (.cells #[ms, lv, .slice A l.length c] 75)) (w.heap.size + 1) 75 #[ms, lv, .slice A l.length c] := by
    have := Blk.new (w.alloc (.cells #[.pointer (some ⟨bs, 0, none⟩)] 111)) 75 #[ms, lv, .slice A l.length c]
    simpa using this
  have H0 := Lib.hid (And.intro (h.below hba) (And.intro hsb (And.intro hrb (hba.mono h.hz))))
  have HP := Lib.hid (And.intro hP (And.intro hPB (And.intro hla (And.intro hN (And.intro hgc hk)))))
  have HT := Lib.hid (And.intro hT (And.intro hg (And.intro hF hlen)))
  have HhB := Lib.hid hbhB
  have Hh0 : w.heap[bh]? = some (.cells #[.bool true, .slice pA H.bl.length pc, .string ⟨#[]⟩, .slice gA H.ns.length gc, .int .i64 (H.k : Int)] 68 (0, 0)) := by
    obtain ⟨A0, n0, c0, h1, h2⟩ := h.h
    exact h1.2.2.2
  have HB0 := Lib.hid Hh0
  clear h hba hsb hrb hP hPB hla hN hgc hk hT hg hF hlen hbhB Hh0
  by_cases hbl : H.bl = []
  · have hlen1 : decide (0 < H.bl.length) = false := by rw [hbl]; rfl
    go_enter Tryz.func56, Tryz.ntmps56
    go_wp2_with fail
    clear c0 c1 c3 c4 c5 d0 p0 f3 d3 d4 d2 d1
    have hlt0 := hbsl
    generalize (w.alloc (.cells #[.pointer (some ⟨bs, 0, none⟩)] 111)).alloc (.cells #[ms, lv, .slice A l.length c] 75) = WC at *
    generalize w.heap.size = sb at *
    have HS := Lib.hid (show Gst WC B (.own bb (.slice pA H.bl.length pc)) bh bs bp (.slice gA H.ns.length gc) (H.k : Int) fb ⟨#[44]⟩ (bl ++ preH H) ∧ Blk WC sb 111 #[.pointer (some ⟨bs, 0, none⟩)] ∧ Blk WC (sb + 1) 75 #[ms, lv, .slice A l.length c] ∧ Below B w WC from by
      have e : preH H = [] := by unfold preH; rw [hbl]; rfl
      have := H0.out
      rw [e, List.append_nil]
      exact this)
    clear H0
    refine (numAttrs72 WC ms lv A l.length c).mono ?_
    rintro e WD ⟨rfl, hbD⟩
    have hGD := HS.out.1.below hbD
    have HD := Lib.hid (And.intro hGD (And.intro (HS.out.2.1.below hbD HS.out.2.1.lt) (And.intro (HS.out.2.2.1.below hbD HS.out.2.2.1.lt) (HS.out.2.2.2.trans (hbD.mono HS.out.1.hz)))))
    have s0 := HD.out.2.1.cell 0
    have r0 := HD.out.2.2.1.cell 0
    have r1 := HD.out.2.2.1.cell 1
    have r2 := HD.out.2.2.1.cell 2
    obtain ⟨c0, c1, c3, c4, c5, d0, p0, f3, d3, d4, d2, d1⟩ := hGD.cells_own
    clear hGD hbD HS
    cases hl : l.isEmpty with
    | true =>
      have hl0 : decide (0 < l.length) = false := by rw [List.isEmpty_iff.1 hl]; rfl
      have hkg : H.k ≤ gc := Nat.le_trans HP.out.2.2.2.2.2 HP.out.2.2.2.2.1
      go_wp2_with fail
      have HLL := Lib.hid (show (bl ++ preH H).length + H.k + 1 ≤ 70368744177664 by
        have h1 := HT.out.2.2.2
        have h2 := HP.out.2.2.2.2.2
        have h3 : (preH H).length ≤ H.bl.length + 1 := by unfold preH; split <;> simp
        rw [List.length_append]
        omega)
      have HZ := Lib.hid (And.intro HD.out.1 (And.intro HD.out.2.1 HD.out.2.2.2))
      clear HD s0 r0 r1 r2 c0 c1 c3 c4 c5 d0 p0 f3 d3 d4 d2 d1
      go_loopg [131] (H.k) (fun j v131 wr => ∃ i : Nat, v131 = .int .i64 i ∧ Aside (i ≤ H.k ∧ j = H.k - i ∧ Gst wr B (.own bb (.slice pA H.bl.length pc)) bh bs bp (.slice gA H.ns.length gc) (H.k : Int) fb ⟨#[44]⟩ ((bl ++ preH H) ++ List.replicate i 125) ∧ Blk wr sb 111 #[.pointer (some ⟨bs, 0, none⟩)] ∧ Below B w wr))
      case atStart => exact ⟨0, rfl, Nat.zero_le _, rfl, by simpa using HZ.out.1, HZ.out.2.1, HZ.out.2.2⟩
      case round =>
        obtain ⟨i, rfl, HI⟩ := hrel
        have s0 := HI.out.2.2.2.1.cell 0
        obtain ⟨c0, c1, c3, c4, c5, d0, p0, f3, d3, d4, d2, d1⟩ := HI.out.2.2.1.cells_own
        by_cases hi : i < H.k
        · have hi0 : decide ((i : Int) < (H.k : Int)) = true := decide_eq_true (by omega)
          have k52 := Lib.hid (writeByte_g HI.out.2.2.1 125 (by have := HLL.out; rw [List.length_append, List.length_replicate]; omega))
          have HI2 := Lib.hid HI.out
          clear HI
          go_wp2_with fail
          refine k52.out.mono ?_
          rintro e w2 ⟨rfl, hG2, hK2⟩
          have HW2 := Lib.hid (And.intro hG2 (And.intro (hK2.k HI2.out.2.2.2.1 (by decide)) (And.intro (HI2.out.2.2.2.2.trans hK2.b) HI2.out.2.1)))
          clear hG2 hK2 k52 HI2 s0 c0 c1 c3 c4 c5 d0 p0 f3 d3 d4 d2 d1
          go_wp2_with fail
          go_roundg (H.k - (i + 1))
          case measure => have := HW2.out.2.2.2; omega
          case rel =>
            refine ⟨i + 1, ?_, hi, rfl, ?_, HW2.out.2.1, HW2.out.2.2.1⟩
            · first
              | (simp; done)
              | (rw [IntWalk.wrap64_in _ ⟨by omega, by have := HLL.out; omega⟩]; simp)
            · have := HW2.out.1
              rw [List.append_assoc] at this
              rw [List.replicate_succ']
              exact this
        · have hi0 : decide ((i : Int) < (H.k : Int)) = false := decide_eq_false (by omega)
          have hil : i = H.k := by have := HI.out.1; omega
          subst hil
          have k52 := Lib.hid (writeByte_g HI.out.2.2.1 125 (by have := HLL.out; rw [List.length_append, List.length_replicate]; omega))
          have HI2 := Lib.hid HI.out
          clear HI
          go_wp2_with fail
          refine k52.out.mono ?_
          rintro e w2 ⟨rfl, hG2, hK2⟩
          have HW2 := Lib.hid (And.intro hG2 (HI2.out.2.2.2.2.trans hK2.b))
          clear hG2 hK2 k52 HI2 s0 c0 c1 c3 c4 c5 d0 p0 f3 d3 d4 d2 d1
          go_wp2_with fail
          go_end0
          refine ⟨rfl, ⟨#[44]⟩, ?_, HW2.out.2⟩
          have := HW2.out.1
          unfold restH
          rw [hl]
          simpa only [preH, List.append_assoc, if_true, Bool.false_eq_true, if_false] using this
    | false =>
      have hl0 : decide (0 < l.length) = true := decide_eq_true (by cases l with | nil => cases hl | cons x y => simp)
      go_wp2_with fail
      clear r0 r1 r2 c1 c3 c5 d0 p0 f3 d3 d4 d1
      have hbhW := HhB.out
      go_region_held3 (fun w' => w'.cell? ⟨sb, 0, none⟩ = some (.pointer (some ⟨bs, 0, none⟩)) ∧ w'.cell? ⟨bs, 4, none⟩ = some (.pointer (some ⟨bp, 0, none⟩)) ∧ w'.cell? ⟨bs, 0, none⟩ = some (.pointer (some ⟨bh, 0, none⟩)) ∧ w'.cell? ⟨bh, 2, none⟩ = some (.string ⟨#[]⟩))
        (go_keep)
        ((first
          | (go_at_call 42
             refine (writePfx HD.out.1.drew).mono ?_
             rintro e WE ⟨rfl, hGE, hKE⟩
             have hsE := hKE.k HD.out.2.1.drew (by decide)
             have z0 : WE.cell? ⟨sb, 0, none⟩ = some (.pointer (some ⟨bs, 0, none⟩)) := hsE.cell 0
             have z4 : WE.cell? ⟨bs, 4, none⟩ = some (.pointer (some ⟨bp, 0, none⟩)) := hGE.cells_own.2.2.2.1
             have z00 : WE.cell? ⟨bs, 0, none⟩ = some (.pointer (some ⟨bh, 0, none⟩)) := hGE.cells_own.1
             have z2 : WE.cell? ⟨bh, 2, none⟩ = some (.string ⟨#[]⟩) := hGE.cells_own.2.2.2.2.2.2.2.2.2.2.1
             have HE2 := Lib.hid (And.intro hGE (And.intro hsE (And.intro (hKE.k HD.out.2.2.1.drew (by decide)) (HD.out.2.2.2.drew.trans hKE.b))))
             clear hGE hsE hKE)))
      clear z4 z00 z2 c0 c4 d2 s0
      have z1 := HE2.out.1.cells_own.2.1
      go_wp2_with fail
      refine (len_g HE2.out.1).mono ?_
      rintro e WE' ⟨rfl, rfl⟩
      go_wp2_with fail
      have hlenG : bl.length + (preH H).length + bulkG (H.ns.drop H.k) + bulkL l + H.ns.length + 5 ≤ 70368744177664 := by
        have h1 := HT.out.2.2.2
        have h3 : (preH H).length ≤ H.bl.length + 1 := by unfold preH; split <;> simp
        omega
      have HLG := Lib.hid hlenG
      clear hlenG z0 z1
      refine (openGroups_g gA gc H.ns H.k HP.out.2.2.2.2.2 HP.out.2.2.2.2.1 HE2.out.1 (by decide) (HT.out.1.below HE2.out.2.2.2 hB6) hB6 (Kd.F_step HP.out.2.2.2.1 (fun k hk _ => HE2.out.2.2.2.block k hk)) (by have := HLG.out; rw [List.length_append]; omega)).mono ?_
      rintro e WF ⟨rfl, hGF, hKF⟩
      have hsF := hKF.k HE2.out.2.1 (by decide)
      have hrF := hKF.k HE2.out.2.2.1 (by decide)
      have s0 := hsF.cell 0
      have hltr := hrF.lt
      have hlts := hsF.lt
      have r0 := hrF.cell 0
      have r1 := hrF.cell 1
      have r2 := hrF.cell 2
      obtain ⟨c0, c1, c3, c4, c5, d0, p0, f3, d3, d4, d2, d1⟩ := hGF.cells_own
      have HF2 := Lib.hid (And.intro hGF (And.intro hsF (And.intro hrF (HE2.out.2.2.2.trans hKF.b))))
      clear hGF hsF hrF hKF HE2
      go_wp2_with fail
      have hbe : Below WF.heap.size WF (WF.alloc (.cells #[.bool true] 4)) := (Below.refl _ _).alloc (Nat.le_refl _) _
      have hNst : Nst (WF.alloc (.cells #[.bool true] 4)) B (.own bb (.slice pA H.bl.length pc)) bh bs bp (.slice gA H.ns.length gc) (H.k : Int) fb (outG ⟨#[44]⟩ (H.ns.drop H.k)).2 (bl ++ preH H ++ (outG ⟨#[44]⟩ (H.ns.drop H.k)).1) sb WF.heap.size true :=
        ⟨HF2.out.1.below hbe, HF2.out.2.1.below hbe HF2.out.2.1.lt, Blk.new WF 4 #[.bool true], HF2.out.1.hz⟩
      have hBG : Below B w (WF.alloc (.cells #[.bool true] 4)) := HF2.out.2.2.2.trans (hbe.mono HF2.out.1.hz)
      have hgl := outG_len (H.ns.drop H.k) ⟨#[44]⟩ (by decide)
      have k73 := Lib.hid (attrs73 l ms lv A c hNst (outG_sep _ _ (by decide)) (HT.out.1.below hBG hB6) hB6 HT.out.2.1 hl (by have := HLG.out; rw [List.length_append, List.length_append]; omega) (Kd.F_step HT.out.2.2.1 (fun k hk _ => hBG.block k hk)))
      have HBG := Lib.hid hBG
      clear hNst hBG hgl hbe HF2 s0 r0 r1 r2 c0 c1 c3 c4 c5 d0 p0 f3 d3 d4 d2 d1 hltr hlts
      generalize WF.alloc (.cells #[.bool true] 4) = WF1 at *
      generalize WF.heap.size = eb at *
      refine k73.out.mono ?_
      rintro e WG ⟨rfl, hNG, hBG2⟩
      have s0 := hNG.s.cell 0
      have e0 := hNG.e.cell 0
      obtain ⟨c0, c1, c3, c4, c5, d0, p0, f3, d3, d4, d2, d1⟩ := hNG.g.cells_own
      have hgcl : H.ns.length ≤ gc := HP.out.2.2.2.2.1
      have HG2 := Lib.hid (And.intro hNG (HBG.out.trans hBG2))
      clear hNG hBG2 k73 HBG
      go_wp2_with fail
      have HLL := Lib.hid (show (bl ++ preH H ++ (outG ⟨#[44]⟩ (H.ns.drop H.k)).1 ++ (outL (outG ⟨#[44]⟩ (H.ns.drop H.k)).2 l).1).length + H.ns.length + 1 ≤ 70368744177664 by
        have h1 := HLG.out
        have h2 := outG_len (H.ns.drop H.k) ⟨#[44]⟩ (by decide)
        have h3 := outL_len l (outG ⟨#[44]⟩ (H.ns.drop H.k)).2 (outG_sep _ _ (by decide))
        rw [List.length_append, List.length_append, List.length_append]
        omega)
      have HZ := Lib.hid (And.intro HG2.out.1.g (And.intro HG2.out.1.s HG2.out.2))
      clear HG2 s0 e0 c0 c1 c3 c4 c5 d0 p0 f3 d3 d4 d2 d1 hgcl
      go_loopg [131] (H.ns.length) (fun j v131 wr => ∃ i : Nat, v131 = .int .i64 i ∧ Aside (i ≤ H.ns.length ∧ j = H.ns.length - i ∧ Gst wr B (.own bb (.slice pA H.bl.length pc)) bh bs bp (.slice gA H.ns.length gc) (H.k : Int) fb (outL (outG ⟨#[44]⟩ (H.ns.drop H.k)).2 l).2 ((bl ++ preH H ++ (outG ⟨#[44]⟩ (H.ns.drop H.k)).1 ++ (outL (outG ⟨#[44]⟩ (H.ns.drop H.k)).2 l).1) ++ List.replicate i 125) ∧ Blk wr sb 111 #[.pointer (some ⟨bs, 0, none⟩)] ∧ Below B w wr))
      case atStart => exact ⟨0, rfl, Nat.zero_le _, rfl, by simpa using HZ.out.1, HZ.out.2.1, HZ.out.2.2⟩
      case round =>
        obtain ⟨i, rfl, HI⟩ := hrel
        have s0 := HI.out.2.2.2.1.cell 0
        obtain ⟨c0, c1, c3, c4, c5, d0, p0, f3, d3, d4, d2, d1⟩ := HI.out.2.2.1.cells_own
        by_cases hi : i < H.ns.length
        · have hi0 : decide ((i : Int) < (H.ns.length : Int)) = true := decide_eq_true (by omega)
          have k52 := Lib.hid (writeByte_g HI.out.2.2.1 125 (by have := HLL.out; rw [List.length_append, List.length_replicate]; omega))
          have HI2 := Lib.hid HI.out
          clear HI
          go_wp2_with fail
          refine k52.out.mono ?_
          rintro e w2 ⟨rfl, hG2, hK2⟩
          have HW2 := Lib.hid (And.intro hG2 (And.intro (hK2.k HI2.out.2.2.2.1 (by decide)) (And.intro (HI2.out.2.2.2.2.trans hK2.b) HI2.out.2.1)))
          clear hG2 hK2 k52 HI2 s0 c0 c1 c3 c4 c5 d0 p0 f3 d3 d4 d2 d1
          go_wp2_with fail
          go_roundg (H.ns.length - (i + 1))
          case measure => have := HW2.out.2.2.2; omega
          case rel =>
            refine ⟨i + 1, ?_, hi, rfl, ?_, HW2.out.2.1, HW2.out.2.2.1⟩
            · first
              | (simp; done)
              | (rw [IntWalk.wrap64_in _ ⟨by omega, by have := HLL.out; omega⟩]; simp)
            · have := HW2.out.1
              rw [List.append_assoc] at this
              rw [List.replicate_succ']
              exact this
        · have hi0 : decide ((i : Int) < (H.ns.length : Int)) = false := decide_eq_false (by omega)
          have hil : i = H.ns.length := by have := HI.out.1; omega
          subst hil
          have k52 := Lib.hid (writeByte_g HI.out.2.2.1 125 (by have := HLL.out; rw [List.length_append, List.length_replicate]; omega))
          have HI2 := Lib.hid HI.out
          clear HI
          go_wp2_with fail
          refine k52.out.mono ?_
          rintro e w2 ⟨rfl, hG2, hK2⟩
          have HW2 := Lib.hid (And.intro hG2 (HI2.out.2.2.2.2.trans hK2.b))
          clear hG2 hK2 k52 HI2 s0 c0 c1 c3 c4 c5 d0 p0 f3 d3 d4 d2 d1
          go_wp2_with fail
          go_end0
          refine ⟨rfl, (outL (outG ⟨#[44]⟩ (H.ns.drop H.k)).2 l).2, ?_, HW2.out.2⟩
          have := HW2.out.1
          unfold restH
          rw [hl]
          simpa only [preH, List.append_assoc, if_true, Bool.false_eq_true, if_false] using this
  · have hpos : 0 < H.bl.length := List.length_pos_iff.2 hbl
    have hlen1 : decide (0 < H.bl.length) = true := decide_eq_true hpos
    go_enter Tryz.func56, Tryz.ntmps56
    go_wp2_with fail
    clear c0 c1 c3 c4 c5 d0 p0 f3 d3 d4 d2 d1
    have hlt0 := hbsl
    generalize (w.alloc (.cells #[.pointer (some ⟨bs, 0, none⟩)] 111)).alloc (.cells #[ms, lv, .slice A l.length c] 75) = W1 at *
    generalize w.heap.size = sb at *
    have s0 := H0.out.2.1.cell 0
    obtain ⟨c0, c1, c3, c4, c5, d0, p0, f3, d3, d4, d2, d1⟩ := H0.out.1.cells_own
    go_region_held3 (fun w' => w'.cell? ⟨sb, 0, none⟩ = some (.pointer (some ⟨bs, 0, none⟩)) ∧ w'.cell? ⟨bs, 1, none⟩ = some (.pointer (some ⟨bb, 0, none⟩)) ∧ w'.cell? ⟨bs, 3, none⟩ = some (.string ⟨#[44]⟩))
      (go_keep)
      ((first
        | (go_at_call 42
           refine (writeString_g H0.out.1.drew ⟨#[44]⟩ (by have := HT.out.2.2.2; show bl.length + 1 ≤ _; omega)).mono ?_
           rintro e W2 ⟨rfl, hG2, hK2⟩
           have hs2 := hK2.k H0.out.2.1.drew (by decide)
           have z0 : W2.cell? ⟨sb, 0, none⟩ = some (.pointer (some ⟨bs, 0, none⟩)) := hs2.cell 0
           have z1 : W2.cell? ⟨bs, 1, none⟩ = some (.pointer (some ⟨bb, 0, none⟩)) := hG2.cells_own.2.1
           have z3 : W2.cell? ⟨bs, 3, none⟩ = some (.string ⟨#[44]⟩) := hG2.cells_own.2.2.1
           have H2 := Lib.hid (And.intro hG2 (And.intro hs2 (And.intro (hK2.k H0.out.2.2.1.drew (by decide)) (H0.out.2.2.2.drew.trans hK2.b))))
           clear hG2 hs2 hK2)))
    clear s0 c0 c1 c3 c4 c5 d0 p0 f3 d3 d4 d2 d1 z3
    go_wp2_with fail
    obtain ⟨gx, ox, rfl, hgx, hcx⟩ := HP.out.1.2 hbl
    have hgB := HP.out.2.1 gx ox rfl
    have HPc := Lib.hid hcx
    have hcx2 : ∀ j u, (bytesOf H.bl)[j]? = some u → W2.cell? ((⟨gx, ox, none⟩ : Addr).add j) = some u := fun j u hu => by
      rw [Addr.add_lit]
      exact (H2.out.2.2.2.cell (p := ⟨gx, ox + j, none⟩) hgB).trans (hcx j u hu)
    refine (write_g H2.out.1 ⟨gx, ox, none⟩ H.bl pc hpos hcx2 (by have := HT.out.2.2.2; rw [List.length_append]; show bl.length + 1 + _ ≤ _; omega)).mono ?_
    rintro e W3 ⟨rfl, hG3, hK3⟩
    have hs3 := hK3.k H2.out.2.1 (by decide)
    have hr3 := hK3.k H2.out.2.2.1 (by decide)
    have hB3 := H2.out.2.2.2.trans hK3.b
    have hcx3 := fun j u (hu : (bytesOf H.bl)[j]? = some u) => (hB3.cell (p := ⟨gx, ox + j, none⟩) hgB).trans (hcx j u hu)
    have s0 := hs3.cell 0
    obtain ⟨c0, c1, c3, c4, c5, d0, p0, f3, d3, d4, d2, d1⟩ := hG3.cells_own
    have H3 := Lib.hid (And.intro hG3 (And.intro hs3 (And.intro hr3 hB3)))
    have HCX := Lib.hid hcx3
    clear hG3 hs3 hr3 hB3 hK3 hcx3 hcx2 hcx hgx H2 z0 z1
    go_wp2_with fail
    have hS4 := H3.out.1.drew.setSep ⟨#[44]⟩
    have hgb : sb ≠ bs := H3.out.2.1.ne_ H3.out.1.s (by decide)
    have H4 := Lib.hid (And.intro hS4.1 (And.intro (H3.out.2.1.drew.far (p := ⟨bs, 3, none⟩) hgb (.string ⟨#[44]⟩)) (And.intro (H3.out.2.2.1.drew.far (p := ⟨bs, 3, none⟩) (H3.out.2.2.1.ne_ H3.out.1.s (by decide)) (.string ⟨#[44]⟩)) (H3.out.2.2.2.drew.trans hS4.2.b))))
    clear hS4
    have q0 : (W3.setCell ⟨bs, 3, none⟩ (.string ⟨#[44]⟩)).drew.cell? ⟨sb, 0, none⟩ = some (.pointer (some ⟨bs, 0, none⟩)) := H4.out.2.1.cell 0
    have q1 : (W3.setCell ⟨bs, 3, none⟩ (.string ⟨#[44]⟩)).drew.cell? ⟨bs, 0, none⟩ = some (.pointer (some ⟨bh, 0, none⟩)) := H4.out.1.cells_own.1
    go_region_held3 (fun w' => w'.cell? ⟨sb, 0, none⟩ = some (.pointer (some ⟨bs, 0, none⟩)) ∧ w'.cell? ⟨bs, 0, none⟩ = some (.pointer (some ⟨bh, 0, none⟩)))
      (first | go_keep | exact ⟨q0, q1⟩)
      ((first
        | (go_at_call 43
           refine (attrSep_b W3.drew bh d0).mono ?_
           rintro e W4 ⟨rfl, rfl⟩)))
    have hlast : ∃ z, H.bl[H.bl.length - 1]? = some z ∧ z ≠ 123 := by
      rw [← List.getLast?_eq_getElem?]
      cases hz : H.bl.getLast? with
      | none => rw [List.getLast?_eq_none_iff] at hz; exact absurd hz hbl
      | some z => exact ⟨z, rfl, fun e => HP.out.2.2.1 (by rw [hz, e])⟩
    obtain ⟨z, hz, hz123⟩ := hlast
    have HW4 := Lib.hid (show Gst (W3.setCell ⟨bs, 3, none⟩ (.string ⟨#[44]⟩)).drew B (.own bb (.slice (some ⟨gx, ox, none⟩) H.bl.length pc)) bh bs bp (.slice gA H.ns.length gc) (H.k : Int) fb ⟨#[44]⟩ (bl ++ [44] ++ H.bl) ∧ Blk (W3.setCell ⟨bs, 3, none⟩ (.string ⟨#[44]⟩)).drew sb 111 #[.pointer (some ⟨bs, 0, none⟩)] ∧ Blk (W3.setCell ⟨bs, 3, none⟩ (.string ⟨#[44]⟩)).drew (sb + 1) 75 #[ms, lv, .slice A l.length c] ∧ Below B w (W3.setCell ⟨bs, 3, none⟩ (.string ⟨#[44]⟩)).drew from H4.out)
    clear q0 q1 s0 c0 c1 c3 c4 c5 d0 p0 f3 d3 d4 d2 d1 H3 H4 HCX
    generalize (W3.setCell ⟨bs, 3, none⟩ (.string ⟨#[44]⟩)).drew = WC at HW4 ⊢
    have hxl := (HW4.out.2.2.2.cell (p := ⟨gx, ox + (H.bl.length - 1), none⟩) hgB).trans (HPc.out (H.bl.length - 1) (.int .u8 z.toNat) (by unfold wk.bytesOf; rw [List.getElem?_map, hz]; rfl))
    have hzn : ((z.toNat : Int) == 123) = false := beq_eq_false_iff_ne.2 (fun e => hz123 (by
      have : z.toNat = 123 := by omega
      exact UInt8.toNat_inj.1 this))
    have hLm : H.bl.length ≤ 70368744177664 := by have := HT.out.2.2.2; omega
    have hi1 : wrap64 ((H.bl.length : Int) - 1) = ((H.bl.length - 1 : Nat) : Int) := by
      rw [IntWalk.wrap64_in _ ⟨by omega, by omega⟩]
      omega
    have hi2 : ((H.bl.length - 1 : Nat) : Int) < (H.bl.length : Int) := by omega
    have s0 := HW4.out.2.1.cell 0
    have r0 := HW4.out.2.2.1.cell 0
    have r1 := HW4.out.2.2.1.cell 1
    have r2 := HW4.out.2.2.1.cell 2
    obtain ⟨c0, c1, c3, c4, c5, d0, p0, f3, d3, d4, d2, d1⟩ := HW4.out.1.cells_own
    clear hLm hz hz123
    go_wp2_with fail
    have HS := Lib.hid (show Gst WC B (.own bb (.slice (some ⟨gx, ox, none⟩) H.bl.length pc)) bh bs bp (.slice gA H.ns.length gc) (H.k : Int) fb ⟨#[44]⟩ (bl ++ preH H) ∧ Blk WC sb 111 #[.pointer (some ⟨bs, 0, none⟩)] ∧ Blk WC (sb + 1) 75 #[ms, lv, .slice A l.length c] ∧ Below B w WC from by
      have e : preH H = [44] ++ H.bl := by unfold preH; rw [if_neg (by simpa using hbl)]; rfl
      have := HW4.out
      rw [e, ← List.append_assoc]
      exact this)
    clear r0 r1 r2 hxl hzn hi1 hi2 s0 c0 c1 c3 c4 c5 d0 p0 f3 d3 d4 d2 d1 HW4 HPc
    refine (numAttrs72 WC ms lv A l.length c).mono ?_
    rintro e WD ⟨rfl, hbD⟩
    have hGD := HS.out.1.below hbD
    have HD := Lib.hid (And.intro hGD (And.intro (HS.out.2.1.below hbD HS.out.2.1.lt) (And.intro (HS.out.2.2.1.below hbD HS.out.2.2.1.lt) (HS.out.2.2.2.trans (hbD.mono HS.out.1.hz)))))
    have s0 := HD.out.2.1.cell 0
    have r0 := HD.out.2.2.1.cell 0
    have r1 := HD.out.2.2.1.cell 1
    have r2 := HD.out.2.2.1.cell 2
    obtain ⟨c0, c1, c3, c4, c5, d0, p0, f3, d3, d4, d2, d1⟩ := hGD.cells_own
    clear hGD hbD HS
    cases hl : l.isEmpty with
    | true =>
      have hl0 : decide (0 < l.length) = false := by rw [List.isEmpty_iff.1 hl]; rfl
      have hkg : H.k ≤ gc := Nat.le_trans HP.out.2.2.2.2.2 HP.out.2.2.2.2.1
      go_wp2_with fail
      have HLL := Lib.hid (show (bl ++ preH H).length + H.k + 1 ≤ 70368744177664 by
        have h1 := HT.out.2.2.2
        have h2 := HP.out.2.2.2.2.2
        have h3 : (preH H).length ≤ H.bl.length + 1 := by unfold preH; split <;> simp
        rw [List.length_append]
        omega)
      have HZ := Lib.hid (And.intro HD.out.1 (And.intro HD.out.2.1 HD.out.2.2.2))
      clear HD s0 r0 r1 r2 c0 c1 c3 c4 c5 d0 p0 f3 d3 d4 d2 d1
      go_loopg [131] (H.k) (fun j v131 wr => ∃ i : Nat, v131 = .int .i64 i ∧ Aside (i ≤ H.k ∧ j = H.k - i ∧ Gst wr B (.own bb (.slice (some ⟨gx, ox, none⟩) H.bl.length pc)) bh bs bp (.slice gA H.ns.length gc) (H.k : Int) fb ⟨#[44]⟩ ((bl ++ preH H) ++ List.replicate i 125) ∧ Blk wr sb 111 #[.pointer (some ⟨bs, 0, none⟩)] ∧ Below B w wr))
      case atStart => exact ⟨0, rfl, Nat.zero_le _, rfl, by simpa using HZ.out.1, HZ.out.2.1, HZ.out.2.2⟩
      case round =>
        obtain ⟨i, rfl, HI⟩ := hrel
        have s0 := HI.out.2.2.2.1.cell 0
        obtain ⟨c0, c1, c3, c4, c5, d0, p0, f3, d3, d4, d2, d1⟩ := HI.out.2.2.1.cells_own
        by_cases hi : i < H.k
        · have hi0 : decide ((i : Int) < (H.k : Int)) = true := decide_eq_true (by omega)
          have k52 := Lib.hid (writeByte_g HI.out.2.2.1 125 (by have := HLL.out; rw [List.length_append, List.length_replicate]; omega))
          have HI2 := Lib.hid HI.out
          clear HI
          go_wp2_with fail
          refine k52.out.mono ?_
          rintro e w2 ⟨rfl, hG2, hK2⟩
          have HW2 := Lib.hid (And.intro hG2 (And.intro (hK2.k HI2.out.2.2.2.1 (by decide)) (And.intro (HI2.out.2.2.2.2.trans hK2.b) HI2.out.2.1)))
          clear hG2 hK2 k52 HI2 s0 c0 c1 c3 c4 c5 d0 p0 f3 d3 d4 d2 d1
          go_wp2_with fail
          go_roundg (H.k - (i + 1))
          case measure => have := HW2.out.2.2.2; omega
          case rel =>
            refine ⟨i + 1, ?_, hi, rfl, ?_, HW2.out.2.1, HW2.out.2.2.1⟩
            · first
              | (simp; done)
              | (rw [IntWalk.wrap64_in _ ⟨by omega, by have := HLL.out; omega⟩]; simp)
            · have := HW2.out.1
              rw [List.append_assoc] at this
              rw [List.replicate_succ']
              exact this
        · have hi0 : decide ((i : Int) < (H.k : Int)) = false := decide_eq_false (by omega)
          have hil : i = H.k := by have := HI.out.1; omega
          subst hil
          have k52 := Lib.hid (writeByte_g HI.out.2.2.1 125 (by have := HLL.out; rw [List.length_append, List.length_replicate]; omega))
          have HI2 := Lib.hid HI.out
          clear HI
          go_wp2_with fail
          refine k52.out.mono ?_
          rintro e w2 ⟨rfl, hG2, hK2⟩
          have HW2 := Lib.hid (And.intro hG2 (HI2.out.2.2.2.2.trans hK2.b))
          clear hG2 hK2 k52 HI2 s0 c0 c1 c3 c4 c5 d0 p0 f3 d3 d4 d2 d1
          go_wp2_with fail
          go_end0
          refine ⟨rfl, ⟨#[44]⟩, ?_, HW2.out.2⟩
          have := HW2.out.1
          unfold restH
          rw [hl]
          simpa only [preH, List.append_assoc, if_true, Bool.false_eq_true, if_false] using this
    | false =>
      have hl0 : decide (0 < l.length) = true := decide_eq_true (by cases l with | nil => cases hl | cons x y => simp)
      go_wp2_with fail
      clear r0 r1 r2 c1 c3 c5 d0 p0 f3 d3 d4 d1
      have hbhW := HhB.out
      go_region_held3 (fun w' => w'.cell? ⟨sb, 0, none⟩ = some (.pointer (some ⟨bs, 0, none⟩)) ∧ w'.cell? ⟨bs, 4, none⟩ = some (.pointer (some ⟨bp, 0, none⟩)) ∧ w'.cell? ⟨bs, 0, none⟩ = some (.pointer (some ⟨bh, 0, none⟩)) ∧ w'.cell? ⟨bh, 2, none⟩ = some (.string ⟨#[]⟩))
        (go_keep)
        ((first
          | (go_at_call 42
             refine (writePfx HD.out.1.drew).mono ?_
             rintro e WE ⟨rfl, hGE, hKE⟩
             have hsE := hKE.k HD.out.2.1.drew (by decide)
             have z0 : WE.cell? ⟨sb, 0, none⟩ = some (.pointer (some ⟨bs, 0, none⟩)) := hsE.cell 0
             have z4 : WE.cell? ⟨bs, 4, none⟩ = some (.pointer (some ⟨bp, 0, none⟩)) := hGE.cells_own.2.2.2.1
             have z00 : WE.cell? ⟨bs, 0, none⟩ = some (.pointer (some ⟨bh, 0, none⟩)) := hGE.cells_own.1
             have z2 : WE.cell? ⟨bh, 2, none⟩ = some (.string ⟨#[]⟩) := hGE.cells_own.2.2.2.2.2.2.2.2.2.2.1
             have HE2 := Lib.hid (And.intro hGE (And.intro hsE (And.intro (hKE.k HD.out.2.2.1.drew (by decide)) (HD.out.2.2.2.drew.trans hKE.b))))
             clear hGE hsE hKE)))
      clear z4 z00 z2 c0 c4 d2 s0
      have z1 := HE2.out.1.cells_own.2.1
      go_wp2_with fail
      refine (len_g HE2.out.1).mono ?_
      rintro e WE' ⟨rfl, rfl⟩
      go_wp2_with fail
      have hlenG : bl.length + (preH H).length + bulkG (H.ns.drop H.k) + bulkL l + H.ns.length + 5 ≤ 70368744177664 := by
        have h1 := HT.out.2.2.2
        have h3 : (preH H).length ≤ H.bl.length + 1 := by unfold preH; split <;> simp
        omega
      have HLG := Lib.hid hlenG
      clear hlenG z0 z1
      refine (openGroups_g gA gc H.ns H.k HP.out.2.2.2.2.2 HP.out.2.2.2.2.1 HE2.out.1 (by decide) (HT.out.1.below HE2.out.2.2.2 hB6) hB6 (Kd.F_step HP.out.2.2.2.1 (fun k hk _ => HE2.out.2.2.2.block k hk)) (by have := HLG.out; rw [List.length_append]; omega)).mono ?_
      rintro e WF ⟨rfl, hGF, hKF⟩
      have hsF := hKF.k HE2.out.2.1 (by decide)
      have hrF := hKF.k HE2.out.2.2.1 (by decide)
      have s0 := hsF.cell 0
      have hltr := hrF.lt
      have hlts := hsF.lt
      have r0 := hrF.cell 0
      have r1 := hrF.cell 1
      have r2 := hrF.cell 2
      obtain ⟨c0, c1, c3, c4, c5, d0, p0, f3, d3, d4, d2, d1⟩ := hGF.cells_own
      have HF2 := Lib.hid (And.intro hGF (And.intro hsF (And.intro hrF (HE2.out.2.2.2.trans hKF.b))))
      clear hGF hsF hrF hKF HE2
      go_wp2_with fail
      have hbe : Below WF.heap.size WF (WF.alloc (.cells #[.bool true] 4)) := (Below.refl _ _).alloc (Nat.le_refl _) _
      have hNst : Nst (WF.alloc (.cells #[.bool true] 4)) B (.own bb (.slice (some ⟨gx, ox, none⟩) H.bl.length pc)) bh bs bp (.slice gA H.ns.length gc) (H.k : Int) fb (outG ⟨#[44]⟩ (H.ns.drop H.k)).2 (bl ++ preH H ++ (outG ⟨#[44]⟩ (H.ns.drop H.k)).1) sb WF.heap.size true :=
        ⟨HF2.out.1.below hbe, HF2.out.2.1.below hbe HF2.out.2.1.lt, Blk.new WF 4 #[.bool true], HF2.out.1.hz⟩
      have hBG : Below B w (WF.alloc (.cells #[.bool true] 4)) := HF2.out.2.2.2.trans (hbe.mono HF2.out.1.hz)
      have hgl := outG_len (H.ns.drop H.k) ⟨#[44]⟩ (by decide)
      have k73 := Lib.hid (attrs73 l ms lv A c hNst (outG_sep _ _ (by decide)) (HT.out.1.below hBG hB6) hB6 HT.out.2.1 hl (by have := HLG.out; rw [List.length_append, List.length_append]; omega) (Kd.F_step HT.out.2.2.1 (fun k hk _ => hBG.block k hk)))
      have HBG := Lib.hid hBG
      clear hNst hBG hgl hbe HF2 s0 r0 r1 r2 c0 c1 c3 c4 c5 d0 p0 f3 d3 d4 d2 d1 hltr hlts
      generalize WF.alloc (.cells #[.bool true] 4) = WF1 at *
      generalize WF.heap.size = eb at *
      refine k73.out.mono ?_
      rintro e WG ⟨rfl, hNG, hBG2⟩
      have s0 := hNG.s.cell 0
      have e0 := hNG.e.cell 0
      obtain ⟨c0, c1, c3, c4, c5, d0, p0, f3, d3, d4, d2, d1⟩ := hNG.g.cells_own
      have hgcl : H.ns.length ≤ gc := HP.out.2.2.2.2.1
      have HG2 := Lib.hid (And.intro hNG (HBG.out.trans hBG2))
      clear hNG hBG2 k73 HBG
      go_wp2_with fail
      have HLL := Lib.hid (show (bl ++ preH H ++ (outG ⟨#[44]⟩ (H.ns.drop H.k)).1 ++ (outL (outG ⟨#[44]⟩ (H.ns.drop H.k)).2 l).1).length + H.ns.length + 1 ≤ 70368744177664 by
        have h1 := HLG.out
        have h2 := outG_len (H.ns.drop H.k) ⟨#[44]⟩ (by decide)
        have h3 := outL_len l (outG ⟨#[44]⟩ (H.ns.drop H.k)).2 (outG_sep _ _ (by decide))
        rw [List.length_append, List.length_append, List.length_append]
        omega)
      have HZ := Lib.hid (And.intro HG2.out.1.g (And.intro HG2.out.1.s HG2.out.2))
      clear HG2 s0 e0 c0 c1 c3 c4 c5 d0 p0 f3 d3 d4 d2 d1 hgcl
      go_loopg [131] (H.ns.length) (fun j v131 wr => ∃ i : Nat, v131 = .int .i64 i ∧ Aside (i ≤ H.ns.length ∧ j = H.ns.length - i ∧ Gst wr B (.own bb (.slice (some ⟨gx, ox, none⟩) H.bl.length pc)) bh bs bp (.slice gA H.ns.length gc) (H.k : Int) fb (outL (outG ⟨#[44]⟩ (H.ns.drop H.k)).2 l).2 ((bl ++ preH H ++ (outG ⟨#[44]⟩ (H.ns.drop H.k)).1 ++ (outL (outG ⟨#[44]⟩ (H.ns.drop H.k)).2 l).1) ++ List.replicate i 125) ∧ Blk wr sb 111 #[.pointer (some ⟨bs, 0, none⟩)] ∧ Below B w wr))
      case atStart => exact ⟨0, rfl, Nat.zero_le _, rfl, by simpa using HZ.out.1, HZ.out.2.1, HZ.out.2.2⟩
      case round =>
        obtain ⟨i, rfl, HI⟩ := hrel
        have s0 := HI.out.2.2.2.1.cell 0
        obtain ⟨c0, c1, c3, c4, c5, d0, p0, f3, d3, d4, d2, d1⟩ := HI.out.2.2.1.cells_own
        by_cases hi : i < H.ns.length
        · have hi0 : decide ((i : Int) < (H.ns.length : Int)) = true := decide_eq_true (by omega)
          have k52 := Lib.hid (writeByte_g HI.out.2.2.1 125 (by have := HLL.out; rw [List.length_append, List.length_replicate]; omega))
          have HI2 := Lib.hid HI.out
          clear HI
          go_wp2_with fail
          refine k52.out.mono ?_
          rintro e w2 ⟨rfl, hG2, hK2⟩
          have HW2 := Lib.hid (And.intro hG2 (And.intro (hK2.k HI2.out.2.2.2.1 (by decide)) (And.intro (HI2.out.2.2.2.2.trans hK2.b) HI2.out.2.1)))
          clear hG2 hK2 k52 HI2 s0 c0 c1 c3 c4 c5 d0 p0 f3 d3 d4 d2 d1
          go_wp2_with fail
          go_roundg (H.ns.length - (i + 1))
          case measure => have := HW2.out.2.2.2; omega
          case rel =>
            refine ⟨i + 1, ?_, hi, rfl, ?_, HW2.out.2.1, HW2.out.2.2.1⟩
            · first
              | (simp; done)
              | (rw [IntWalk.wrap64_in _ ⟨by omega, by have := HLL.out; omega⟩]; simp)
            · have := HW2.out.1
              rw [List.append_assoc] at this
              rw [List.replicate_succ']
              exact this
        · have hi0 : decide ((i : Int) < (H.ns.length : Int)) = false := decide_eq_false (by omega)
          have hil : i = H.ns.length := by have := HI.out.1; omega
          subst hil
          have k52 := Lib.hid (writeByte_g HI.out.2.2.1 125 (by have := HLL.out; rw [List.length_append, List.length_replicate]; omega))
          have HI2 := Lib.hid HI.out
          clear HI
          go_wp2_with fail
          refine k52.out.mono ?_
          rintro e w2 ⟨rfl, hG2, hK2⟩
          have HW2 := Lib.hid (And.intro hG2 (HI2.out.2.2.2.2.trans hK2.b))
          clear hG2 hK2 k52 HI2 s0 c0 c1 c3 c4 c5 d0 p0 f3 d3 d4 d2 d1
          go_wp2_with fail
          go_end0
          refine ⟨rfl, (outL (outG ⟨#[44]⟩ (H.ns.drop H.k)).2 l).2, ?_, HW2.out.2⟩
          have := HW2.out.1
          unfold restH
          rw [hl]
          simpa only [preH, List.append_assoc, if_true, Bool.false_eq_true, if_false] using this
end
end Go.Proofs.YtcllhgajdcemiaaGreatDoor.jb
