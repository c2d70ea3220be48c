/-
  Ghand: handle of the JSON handler: the line (lineJ). Conditions: a level from -4 to 8; the lists are not too long; the bytes stay below 2^46.
  Gline: line and JSONLine of the package and of the thin package: the line (lineJ) of the steps and attributes. Conditions: a level from -4 to 8; the trees weigh less than 2^40.
-/
import Derived.Test.YtcllhgajdcemiaaGreatDoorGw
import Derived.Test.YtcllhgajdcemiaaGreatDoorGadd
namespace Go.Proofs.YtcllhgajdcemiaaGreatDoor.jb
open Go.RowKit Go.Proofs.YtcllhgajdcemiaaGreatDoorW.PrintWords
open Go.Proofs.YtcllhgajdcemiaaGreatDoor.wk (Blk bytesOf own_form lvl)
set_option linter.unusedVariables false
set_option linter.unusedSimpArgs false
set_option maxRecDepth 100000 in
theorem conv_bf {w : World} {B : Nat} {v : Value} {l : List UInt8} (h : Bf w B v l) (hl : l ≠ []) : (convert 65 9 v).run Tryz.prog w = .ok (.string ⟨l.toArray⟩) w := by
  obtain ⟨A, c, rfl⟩ := h.form
  obtain ⟨g, o, e, hc⟩ := h.cells hl
  injection e with e1 e2 e3
  subst e1
  have hb : Lib.Bytes w g o ⟨l.toArray⟩ := by
    intro i hi
    have hi' : i < l.length := by simpa [ByteArray.size] using hi
    have := hc i (.int .u8 l[i].toNat) (by simp [wk.bytesOf, List.getElem?_map, List.getElem?_eq_getElem hi'])
    have e : (⟨l.toArray⟩ : ByteArray)[i] = l[i] := by show l.toArray[i] = l[i]; simp
    rw [e]
    exact this
  have h := Lib.run_convert_whole (P := Tryz.prog) w 65 5 9 Tryz.underlying65 Tryz.underlying5 Tryz.underlying9 g o ⟨l.toArray⟩ hb c
  simpa [ByteArray.size] using h
theorem restH_len (H : Hs) (l : List S102) (hk : H.k ≤ H.ns.length) : (restH H l).length ≤ H.bl.length + 1 + bulkG (H.ns.drop H.k) + bulkL l + H.ns.length := by
  have h1 := outG_len (H.ns.drop H.k) ⟨#[44]⟩ (by decide)
  have h2 := outL_len l (outG ⟨#[44]⟩ (H.ns.drop H.k)).2 (outG_sep _ _ (by decide))
  unfold restH
  rw [List.length_append]
  have h3 : (if H.bl.isEmpty = true then [] else 44 :: H.bl).length ≤ H.bl.length + 1 := by split <;> simp
  have h4 : (if l.isEmpty = true then List.replicate H.k (125 : UInt8) else (outG ⟨#[44]⟩ (H.ns.drop H.k)).1 ++ (outL (outG ⟨#[44]⟩ (H.ns.drop H.k)).2 l).1 ++ List.replicate H.ns.length 125).length ≤ bulkG (H.ns.drop H.k) + bulkL l + H.ns.length := by
    split
    · rw [List.length_replicate]; omega
    · rw [List.length_append, List.length_append, List.length_replicate]; omega
  omega
section
variable {w w2 : World} {bh bp : Nat} {pA gA : Option Addr} {pc gc : Nat} {H : Hs} {R : Array Value}
theorem hinit (hb : Blk w bh 68 #[.bool true, .slice pA H.bl.length pc, .string ⟨#[]⟩, .slice gA H.ns.length gc, .int .i64 (H.k : Int)]) (hp : Blk w2 bp 65 #[.slice none 0 0]) (hbp : w.heap.size + 2 ≤ bp)
    (hb2 : Below (w.heap.size + 2) ((w.alloc (.cells R 75)).alloc (.cells #[.slice none 0 0] 65)) w2) :
    Gst (w2.alloc (.cells #[.pointer (some ⟨bh, 0, none⟩), .pointer (some ⟨w.heap.size + 1, 0, none⟩), .bool true, .string ⟨#[]⟩, .pointer (some ⟨bp, 0, none⟩), .pointer none] 87)) w.heap.size (.own (w.heap.size + 1) (.slice pA H.bl.length pc)) bh w2.heap.size bp (.slice gA H.ns.length gc) (H.k : Int) true ⟨#[]⟩ [] ∧
    Blk (w2.alloc (.cells #[.pointer (some ⟨bh, 0, none⟩), .pointer (some ⟨w.heap.size + 1, 0, none⟩), .bool true, .string ⟨#[]⟩, .pointer (some ⟨bp, 0, none⟩), .pointer none] 87)) w.heap.size 75 R ∧
    Below w.heap.size w (w2.alloc (.cells #[.pointer (some ⟨bh, 0, none⟩), .pointer (some ⟨w.heap.size + 1, 0, none⟩), .bool true, .string ⟨#[]⟩, .pointer (some ⟨bp, 0, none⟩), .pointer none] 87)) := by
  have hlt := hb.lt
  have hz : w.heap.size + 2 ≤ w2.heap.size := by have := hb2.size; simp at this; omega
  have hbb : Blk w2 (w.heap.size + 1) 65 #[.slice none 0 0] := by
    have h0 := Blk.new (w.alloc (.cells R 75)) 65 #[.slice none 0 0]
    have h1 : Blk ((w.alloc (.cells R 75)).alloc (.cells #[.slice none 0 0] 65)) (w.heap.size + 1) 65 #[.slice none 0 0] := by simpa using h0
    exact h1.below hb2 (by omega)
  have hR : Blk w2 w.heap.size 75 R := ((Blk.new w 75 _).alloc _).below hb2 (by omega)
  have hh2 := ((hb.alloc (.cells R 75)).alloc (.cells #[.slice none 0 0] 65)).below hb2 (by omega)
  have hw2 : Below w.heap.size w w2 := (((Below.refl _ w).alloc (Nat.le_refl _) _).alloc (by simp) _).trans (hb2.mono (by omega))
  refine ⟨⟨Blk.new _ _ _, hp.alloc _, ⟨none, 0, 0, ⟨hbb.alloc _, by omega, by omega, hh2.alloc _⟩, Bf.nil _ _⟩, by omega, by omega, by simp; omega⟩, hR.alloc _, hw2.alloc hw2.size _⟩
end
set_option maxRecDepth 100000 in
set_option maxHeartbeats 4000000 in
theorem handle35 (w : World) (bh : Nat) (H : Hs) (hH : Hd w bh H) (hla : H.bl.getLast? ≠ some 123) (hT : Tabs w) (hB6 : 6 ≤ w.heap.size) (n : Int) (hn0 : -4 ≤ n) (hn1 : n ≤ 8) (msg : ByteArray) (l : List S102) (A : Option Addr) (c : Nat) (hF : Kd.F k102 w (fun k => k < w.heap.size) A l.length l) (hg : ∀ a, a ∈ l → goodA a = true)
    (hlen : 6 * msg.size + H.bl.length + bulkG (H.ns.drop H.k) + bulkL l + H.ns.length + 100000 ≤ 70368744177664) :
    Calls Tryz.prog 35 #[.pointer (some ⟨bh, 0, none⟩), .agg #[.string msg, .int .i64 n, .slice A l.length c]] w fun e w' => e = .returned (.string ⟨(lineJ (lvl n) msg H l).toArray⟩) ∧ Below w.heap.size w w' := by
  obtain ⟨pA, pc, gA, gc, hb, h2, h3, h4, h5, h6⟩ := hH
  have c0 : w.cell? ⟨bh, 0, none⟩ = some (.bool true) := hb.cell 0
  have hlt := hb.lt
  have HH := Lib.hid hb
  have HP := Lib.hid (And.intro h2 (And.intro h3 (And.intro h4 (And.intro h5 h6))))
  have HT := Lib.hid (And.intro hT (And.intro hg (And.intro hF (And.intro hla hlen))))
  clear hb h2 h3 h4 h5 h6 hT hg hF hla hlen
  go_enter_defers Tryz.func35, Tryz.ntmps35
  go_wp2_with (first | (go_at_call 51; go_must (refine (wk.newBuffer_any _).mono ?_; rintro e w1 ⟨rfl, rfl⟩)) | (go_at_call 40; go_must (refine (wk.newState_any _ _ _ _ _).mono ?_; rintro e w2 ⟨bp, hbp, rfl, hp, hb2⟩; have hb3 : Below (w.heap.size + 2) ((w.alloc (.cells #[.string msg, .int .i64 n, .slice A l.length c] 75)).alloc (.cells #[.slice none 0 0] 65)) w2 := (by simpa using hb2); have hbp' : w.heap.size + 2 ≤ bp := (by simpa using hbp); have H3 := Lib.hid (hinit HH.out hp hbp' hb3); have hz : w.heap.size + 2 ≤ w2.heap.size := (by have := hb3.size; simp at this; omega); have hlt2 : bh < w2.heap.size := (by omega); have hlt3 : w.heap.size < w2.heap.size := (by omega); have c2 : w2.cell? ⟨bh, 0, none⟩ = some (.bool true) := (by have := H3.out.1.cells_own.2.2.2.2.2.1; rwa [World.cell?_alloc_lt _ _ _ hlt2] at this); clear hbp hp hb2 hb3 hbp' c0)))
  have HLN := Lib.hid (And.intro (keyG_length ⟨#[]⟩ keyLevelB (by decide)) (And.intro (keyG_length ⟨#[44]⟩ keyMsgB (by decide)) (And.intro (quo_length (lvl n)) (And.intro (quo_length msg) (And.intro (show keyLevelB.size = 5 from rfl) (And.intro (show keyMsgB.size = 3 from rfl) (show (lvl n).size ≤ 1000 from (wk.lvl_ok n hn0 hn1).2.1)))))))
  clear c2
  generalize w2.alloc (.cells #[.pointer (some ⟨bh, 0, none⟩), .pointer (some ⟨w.heap.size + 1, 0, none⟩), .bool true, .string ⟨#[]⟩, .pointer (some ⟨bp, 0, none⟩), .pointer none] 87) = WS at H3 ⊢
  generalize w2.heap.size = bs at *
  have H0 := H3
  clear H3
  refine (writeByte_g H0.out.1 123 (by have := HT.out.2.2.2.2; have := HLN.out; (try simp only [List.length_append]); (try simp only [List.length_cons]); (try simp only [List.length_nil]); omega)).mono ?_
  rintro e W1 ⟨rfl, hG, hK⟩
  have H1 := Lib.hid (And.intro hG (And.intro (hK.k H0.out.2.1 (by decide)) (H0.out.2.2.trans hK.b)))
  clear H0
  have hS := H1.out.1.setGroups
  have H2 := Lib.hid (And.intro hS.1 (And.intro (hS.2.k H1.out.2.1 (by decide)) (H1.out.2.2.trans hS.2.b)))
  obtain ⟨c0, c1, c3, c4, c5, d0, p0, f3, d3, d4, d2, d1⟩ := H1.out.1.cells_own
  have f5 := H1.out.1.s.frozen 5
  have r0 := H1.out.2.1.cell 0
  have r1 := H1.out.2.1.cell 1
  have r2 := H1.out.2.1.cell 2
  clear hS
  go_wp2_with fail
  generalize W1.setCell ⟨bs, 5, none⟩ (.pointer none) = W2 at H2 ⊢
  clear c0 c1 c3 c4 c5 d0 p0 f3 d3 d4 d2 d1 f5 r0 r1 r2 hG hK
  clear H1
  refine (appendKey_g H2.out.1 (by decide) keyLevelB (HT.out.1.below H2.out.2.2 hB6) hB6 (by have := HT.out.2.2.2.2; have := HLN.out; (try simp only [List.length_append]); (try simp only [List.length_cons]); (try simp only [List.length_nil]); omega)).mono ?_
  rintro e W3 ⟨rfl, hG, hK⟩
  have H3 := Lib.hid (And.intro hG (And.intro (hK.k H2.out.2.1 (by decide)) (H2.out.2.2.trans hK.b)))
  clear H2
  obtain ⟨c0, c1, c3, c4, c5, d0, p0, f3, d3, d4, d2, d1⟩ := H3.out.1.cells_own
  have f5 := H3.out.1.s.frozen 5
  have r0 := H3.out.2.1.cell 0
  have r1 := H3.out.2.1.cell 1
  have r2 := H3.out.2.1.cell 2
  go_wp2_with (go_at_call 55; go_must (refine (wk.string_any n hn0 hn1 _).mono ?_; rintro e w' ⟨rfl, rfl⟩))
  clear c0 c1 c3 c4 c5 d0 p0 f3 d3 d4 d2 d1 f5 r0 r1 r2 hG hK
  refine (appendString_g H3.out.1 (lvl n) (HT.out.1.below H3.out.2.2 hB6) hB6 (by have := HT.out.2.2.2.2; have := HLN.out; (try simp only [List.length_append]); (try simp only [List.length_cons]); (try simp only [List.length_nil]); omega)).mono ?_
  rintro e W4 ⟨rfl, hG, hK⟩
  have H4 := Lib.hid (And.intro hG (And.intro (hK.k H3.out.2.1 (by decide)) (H3.out.2.2.trans hK.b)))
  clear H3
  obtain ⟨c0, c1, c3, c4, c5, d0, p0, f3, d3, d4, d2, d1⟩ := H4.out.1.cells_own
  have f5 := H4.out.1.s.frozen 5
  have r0 := H4.out.2.1.cell 0
  have r1 := H4.out.2.1.cell 1
  have r2 := H4.out.2.1.cell 2
  go_wp2_with fail
  clear c0 c1 c3 c4 c5 d0 p0 f3 d3 d4 d2 d1 f5 r0 r1 r2 hG hK
  refine (appendKey_g H4.out.1 (by decide) keyMsgB (HT.out.1.below H4.out.2.2 hB6) hB6 (by have := HT.out.2.2.2.2; have := HLN.out; (try simp only [List.length_append]); (try simp only [List.length_cons]); (try simp only [List.length_nil]); omega)).mono ?_
  rintro e W5 ⟨rfl, hG, hK⟩
  have H5 := Lib.hid (And.intro hG (And.intro (hK.k H4.out.2.1 (by decide)) (H4.out.2.2.trans hK.b)))
  clear H4
  obtain ⟨c0, c1, c3, c4, c5, d0, p0, f3, d3, d4, d2, d1⟩ := H5.out.1.cells_own
  have f5 := H5.out.1.s.frozen 5
  have r0 := H5.out.2.1.cell 0
  have r1 := H5.out.2.1.cell 1
  have r2 := H5.out.2.1.cell 2
  go_wp2_with fail
  clear c0 c1 c3 c4 c5 d0 p0 f3 d3 d4 d2 d1 f5 r0 r1 r2 hG hK
  refine (appendString_g H5.out.1 msg (HT.out.1.below H5.out.2.2 hB6) hB6 (by have := HT.out.2.2.2.2; have := HLN.out; (try simp only [List.length_append]); (try simp only [List.length_cons]); (try simp only [List.length_nil]); omega)).mono ?_
  rintro e W6 ⟨rfl, hG, hK⟩
  have H6 := Lib.hid (And.intro hG (And.intro (hK.k H5.out.2.1 (by decide)) (H5.out.2.2.trans hK.b)))
  clear H5
  have hS := H6.out.1.setGroups
  have H7 := Lib.hid (And.intro hS.1 (And.intro (hS.2.k H6.out.2.1 (by decide)) (H6.out.2.2.trans hS.2.b)))
  obtain ⟨c0, c1, c3, c4, c5, d0, p0, f3, d3, d4, d2, d1⟩ := H6.out.1.cells_own
  have f5 := H6.out.1.s.frozen 5
  have r0 := H6.out.2.1.cell 0
  have r1 := H6.out.2.1.cell 1
  have r2 := H6.out.2.1.cell 2
  clear hS
  go_wp2_with fail
  generalize W6.setCell ⟨bs, 5, none⟩ (.pointer none) = W7 at H7 ⊢
  clear c0 c1 c3 c4 c5 d0 p0 f3 d3 d4 d2 d1 f5 r0 r1 r2 hG hK
  clear H6
  have hPf := HP.out.2.1.below H7.out.2.2
  refine (nonBuiltIns_a H pA gA pc gc l (.string msg) (.int .i64 n) A c (w.heap.size + 1) H7.out.1 hlt hPf ?_ HT.out.2.2.2.1 (Kd.F_below HP.out.2.2.2.1.F H7.out.2.2) HP.out.2.2.1 HP.out.2.2.2.2 (HT.out.1.below H7.out.2.2 hB6) hB6 HT.out.2.1 (Kd.F_below HT.out.2.2.1 H7.out.2.2) (by have := HT.out.2.2.2.2; have := HLN.out; (try simp only [List.length_append]); (try simp only [List.length_cons]); (try simp only [List.length_nil]); omega)).mono ?_
  case refine_1 =>
    intro g o e
    by_cases hbl : H.bl = []
    · rw [HP.out.2.1.1 hbl] at e; cases e
    · obtain ⟨g', o', e', hg', _⟩ := HP.out.2.1.2 hbl
      rw [e'] at e
      injection e with e
      injection e with e1 e2
      omega
  rintro e W8 ⟨rfl, sep8, hG, hB8⟩
  have H8 := Lib.hid (And.intro hG (H7.out.2.2.trans hB8))
  clear H7 hPf hB8
  obtain ⟨c0, c1, c3, c4, c5, d0, p0, f3, d3, d4, d2, d1⟩ := H8.out.1.cells_own
  go_wp2_with fail
  clear c0 c1 c3 c4 c5 d0 p0 f3 d3 d4 d2 d1 hG
  have HRL := Lib.hid (restH_len H l HP.out.2.2.2.2)
  refine (writeByte_g H8.out.1 10 (by have := HT.out.2.2.2.2; have := HLN.out; have := HRL.out; (try simp only [List.length_append]); (try simp only [List.length_cons]); (try simp only [List.length_nil]); omega)).mono ?_
  rintro e W9 ⟨rfl, hG, hK⟩
  have H9 := Lib.hid (And.intro hG (H8.out.2.trans hK.b))
  obtain ⟨c0, c1, c3, c4, c5, d0, p0, f3, d3, d4, d2, d1⟩ := H9.out.1.cells_own
  clear H8 hG hK
  obtain ⟨Av, nv, cv, hv1, hv2⟩ := H9.out.1.h
  have e1 : W9.cell? ⟨w.heap.size + 1, 0, none⟩ = some (.slice Av nv cv) := hv1.1.cell 0
  have hline : [] ++ [123] ++ keyG ⟨#[]⟩ keyLevelB ++ quo (lvl n) ++ keyG ⟨#[44]⟩ keyMsgB ++ quo msg ++ (restH H l ++ [125]) ++ [10] = lineJ (lvl n) msg H l := by
    unfold lineJ
    simp [List.append_assoc]
  have hcv : (convert 65 9 (.slice Av nv cv)).run Tryz.prog W9 = .ok (.string ⟨(lineJ (lvl n) msg H l).toArray⟩) W9 := by
    have := conv_bf hv2 (by simp)
    rw [hline] at this
    exact this
  clear hv1 hv2 hline
  go_wp2_with fail
  refine leaves_cons (f := 41) (args := #[.pointer (some ⟨bs, 0, none⟩)]) (by simp) (by simp [go_sem]) ?_
  refine (free_d _ bs _ _ _ _ _ true H9.out.1.s .returning).mono ?_
  rintro e u' w'' ⟨rfl, rfl, rfl⟩
  exact ⟨_, results_tmp rfl _ _ _, rfl, H9.out.2⟩
end Go.Proofs.YtcllhgajdcemiaaGreatDoor.jb

namespace Go.Proofs.YtcllhgajdcemiaaGreatDoor.jb
open Go.RowKit Go.Proofs.YtcllhgajdcemiaaGreatDoorW.PrintWords Go.Proofs.YtcllhgajdcemiaaGreatDoorW.PrintLast Go.Proofs.YtcllhgajdcemiaaGreatDoorW.PrintMore
open Go.Proofs.YtcllhgajdcemiaaGreatDoor.PFnJSONBack
open Go.Proofs.YtcllhgajdcemiaaGreatDoor.wk (Blk bytesOf own_form lvl)
set_option linter.unusedVariables false
set_option linter.unusedSimpArgs false
/-! ## bounds -/
theorem bulk_filter : ∀ l : List S102, bulkL (l.filter (fun a => !emptyG a)) ≤ bulkL l
  | [] => by simp [bulkL]
  | a :: l => by
    have ih := bulk_filter l
    cases h : emptyG a with
    | true => rw [List.filter_cons_of_neg (by simp [h])]; simp only [bulkL]; omega
    | false => rw [List.filter_cons_of_pos (by simp [h])]; simp only [bulkL]; omega
mutual
theorem bulk_ofA : ∀ a : S34, bulkA (ofA (logA a)) ≤ 6 * wtA a
  | ⟨k, v, g, l⟩ => by
    have h := bulk_ofL l
    cases g with
    | false => simp [logA, ofA, bulkA, wtA, bulkL]; omega
    | true =>
      simp only [logA, ofA, if_true, bulkA, wtA]
      have h2 : bulkL ((ofL (logL l)).filter (fun a => !emptyG a)) ≤ bulkL (ofL (logL l)) := bulk_filter _
      have : (⟨#[]⟩ : ByteArray).size = 0 := rfl
      omega
theorem bulk_ofL : ∀ l : List S34, bulkL (ofL (logL l)) ≤ 6 * wtL l
  | [] => by simp [logL, ofL, bulkL, wtL]
  | a :: l => by
    have h1 := bulk_ofA a
    have h2 := bulk_ofL l
    simp only [logL, ofL, bulkL, wtL]
    omega
end
theorem bulkG_append : ∀ (a b : List ByteArray), bulkG (a ++ b) = bulkG a + bulkG b
  | [], b => by simp [bulkG]
  | x :: a, b => by simp only [List.cons_append, bulkG, bulkG_append a b]; omega
def phi (H : Hs) : Nat := H.bl.length + bulkG (H.ns.drop H.k)
def wS (s : S36) : Nat := s.f0.size + 20 + wtL s.f1
/-- what holds of the handler behind some steps of the weight n. -/
structure HsOk (H : Hs) (n m : Nat) : Prop where
  k : H.k ≤ H.ns.length
  last : H.bl.getLast? ≠ some 123
  phi : phi H ≤ 6 * n
  len : H.ns.length ≤ m
theorem good_log (l : List S34) : ∀ a, a ∈ ofL (logL l) → goodA a = true := good_ofL (logL l)
theorem HsOk.step {H : Hs} {n m : Nat} (h : HsOk H n m) (s : S36) : HsOk (stepH H s) (n + wS s) (m + 1) := by
  obtain ⟨g, l, f⟩ := s
  have hp := h.phi
  have hw : wS ⟨g, l, f⟩ = g.size + 20 + wtL l := rfl
  have same : HsOk H (n + wS ⟨g, l, f⟩) (m + 1) := ⟨h.k, h.last, by omega, by have := h.len; omega⟩
  unfold stepH
  split
  · split
    · exact same
    · refine ⟨by have := h.k; simp [withG]; omega, h.last, ?_, by have := h.len; simp [withG]; omega⟩
      unfold Go.Proofs.YtcllhgajdcemiaaGreatDoor.jb.phi at hp ⊢
      simp only [withG]
      rw [List.drop_append_of_le_length h.k, bulkG_append]
      simp only [bulkG]
      omega
  · split
    · exact same
    · cases he : allEmpty (ofL (logL l)) with
      | true =>
        have : withA H (ofL (logL l)) = H := by unfold withA; rw [he]; rfl
        simp only [this]
        exact same
      | false =>
        have hl := withA_last H (ofL (logL l)) (good_log l) h.last
        have hwa : withA H (ofL (logL l)) = ⟨H.bl ++ ((outG (sepH H.bl) (H.ns.drop H.k)).1 ++ (outL (outG (sepH H.bl) (H.ns.drop H.k)).2 (ofL (logL l))).1), H.ns, H.ns.length⟩ := by unfold withA; rw [he]; rfl
        simp only
        rw [hwa] at hl ⊢
        refine ⟨Nat.le_refl _, hl, ?_, by have := h.len; simp; omega⟩
        have hs : (sepH H.bl).size ≤ 1 := by unfold sepH; split <;> decide
        have h1 := outG_len (H.ns.drop H.k) (sepH H.bl) hs
        have h2 := outL_len (ofL (logL l)) (outG (sepH H.bl) (H.ns.drop H.k)).2 (outG_sep _ _ hs)
        have h3 := bulk_ofL l
        unfold Go.Proofs.YtcllhgajdcemiaaGreatDoor.jb.phi at hp ⊢
        simp only [List.drop_length, bulkG, List.length_append]
        omega
theorem wtS_eq : ∀ steps : List S36, wtS steps = (steps.map wS).sum
  | [] => by simp [wtS]
  | s :: t => by rw [wtS, wtS_eq t]; simp [wS]
theorem hs_take (steps : List S36) : ∀ i, i ≤ steps.length → HsOk ((steps.take i).foldl stepH ⟨[], [], 0⟩) (wtS (steps.take i)) i
  | 0, _ => by simp only [List.take_zero, List.foldl_nil]; exact ⟨Nat.le_refl _, by simp, by simp [phi, bulkG, wtS], Nat.le_refl _⟩
  | i + 1, hi => by
    have ih := hs_take steps i (by omega)
    have e : steps.take (i + 1) = steps.take i ++ [steps[i]] := (List.take_append_getElem (by omega)).symm
    rw [e, List.foldl_append]
    have := ih.step steps[i]
    have e2 : wtS (steps.take i ++ [steps[i]]) = wtS (steps.take i) + wS steps[i] := by rw [wtS_eq, wtS_eq, List.map_append, List.sum_append]; simp
    rw [e2]
    exact this
theorem wtS_take (steps : List S36) (i : Nat) (hi : i < steps.length) : wtS (steps.take i) + wS steps[i] ≤ wtS steps := by
  rw [wtS_eq, wtS_eq]
  conv => rhs; rw [← List.take_append_drop (i + 1) steps]
  have e : steps.take (i + 1) = steps.take i ++ [steps[i]] := (List.take_append_getElem hi).symm
  rw [e, List.map_append, List.map_append, List.sum_append, List.sum_append]
  simp
theorem wtS_take_le (steps : List S36) (i : Nat) : wtS (steps.take i) ≤ wtS steps := by
  rw [wtS_eq, wtS_eq]
  conv => rhs; rw [← List.take_append_drop i steps]
  rw [List.map_append, List.sum_append]
  omega
mutual
theorem wlog_A : ∀ a : S34, wA79 (logA a) ≤ wtA a
  | ⟨k, v, g, l⟩ => by
    have := wlog_L l
    simp only [logA, wA79, wtA]
    omega
theorem wlog_L : ∀ l : List S34, wL79 (logL l) ≤ wtL l
  | [] => by simp [logL, wL79, wtL]
  | a :: l => by
    have h1 := wlog_A a
    have h2 := wlog_L l
    simp only [logL, wL79, wtL]
    omega
end
theorem at59 {w : World} {A : Option Addr} (steps : List S36) (h : Kd.C k59 w A steps.length (steps.map logS)) (i : Nat) (hi : i < steps.length) :
    ∃ ad A1 c1, A = some ad ∧ w.cell? (ad.add (i * 3)) = some (.string steps[i].f0) ∧ w.cell? ⟨(ad.add (i * 3)).block, (ad.add (i * 3)).off + 1, none⟩ = some (.slice A1 (logL steps[i].f1).length c1) ∧ w.cell? ⟨(ad.add (i * 3)).block, (ad.add (i * 3)).off + 2, none⟩ = some (.bool steps[i].f2) ∧ (logL steps[i].f1).length ≤ c1 ∧ k79.C w A1 (logL steps[i].f1).length (logL steps[i].f1) := by
  have h1 := at_T59 h (i : Int) (by omega) (by omega)
  have e : rd_T59 (steps.map logS) (i : Int) = logS steps[i] := by
    unfold rd_T59
    rw [Int.toNat_natCast, List.getD_eq_getElem?_getD, List.getElem?_eq_getElem (by rw [List.length_map]; exact hi), List.getElem_map]
    rfl
  rw [e] at h1
  simpa [logS] using h1
set_option maxRecDepth 100000 in
set_option maxHeartbeats 4000000 in
theorem line27 (w : World) (hT : Tabs w) (hB6 : 6 ≤ w.heap.size) (n : Int) (hn0 : -4 ≤ n) (hn1 : n ≤ 8) (msg : ByteArray) (steps : List S36) (r : List S34) (SA AA : Option Addr) (sc ac : Nat)
    (hS : Kd.C k59 w SA steps.length (steps.map logS)) (hsc : steps.length ≤ sc) (hA : Kd.C k79 w AA (logL r).length (logL r)) (hac : (logL r).length ≤ ac)
    (h1 : msg.size < 2 ^ 40) (h2 : wtS steps < 2 ^ 40) (h3 : wtL r < 2 ^ 40) :
    Calls Tryz.prog 27 #[.agg #[.int .i64 n, .string msg, .slice SA steps.length sc, .slice AA (logL r).length ac], .bool true] w fun e w' =>
      e = .returned (.string ⟨(lineJ (lvl n) msg (steps.foldl stepH ⟨[], [], 0⟩) (recOf r)).toArray⟩) ∧ Below w.heap.size w w' := by
  have HS := Lib.hid (And.intro hS hsc)
  have HA := Lib.hid (And.intro hA hac)
  have HT := Lib.hid hT
  have HL := Lib.hid (And.intro h1 (And.intro h2 h3))
  clear hS hsc hA hac hT h1 h2 h3
  go_enter Tryz.func27, Tryz.ntmps27
  go_wp2_with fail
  have hb0 : Below w.heap.size w ((w.alloc (.cells #[.int .i64 n, .string msg, .slice SA steps.length sc, .slice AA (logL r).length ac] 49)).alloc (.cells #[.bool true, .slice none 0 0, .string ⟨#[]⟩, .slice none 0 0, .int .i64 0] 68)) := ((Below.refl _ w).alloc (Nat.le_refl _) _).alloc (by simp) _
  have hl0 : Blk ((w.alloc (.cells #[.int .i64 n, .string msg, .slice SA steps.length sc, .slice AA (logL r).length ac] 49)).alloc (.cells #[.bool true, .slice none 0 0, .string ⟨#[]⟩, .slice none 0 0, .int .i64 0] 68)) w.heap.size 49 #[.int .i64 n, .string msg, .slice SA steps.length sc, .slice AA (logL r).length ac] := (Blk.new w 49 _).alloc _
  have hh0 : Hd ((w.alloc (.cells #[.int .i64 n, .string msg, .slice SA steps.length sc, .slice AA (logL r).length ac] 49)).alloc (.cells #[.bool true, .slice none 0 0, .string ⟨#[]⟩, .slice none 0 0, .int .i64 0] 68)) (w.heap.size + 1) ⟨[], [], 0⟩ := by
    have := Blk.new (w.alloc (.cells #[.int .i64 n, .string msg, .slice SA steps.length sc, .slice AA (logL r).length ac] 49)) 68 #[.bool true, .slice none 0 0, .string ⟨#[]⟩, .slice none 0 0, .int .i64 0]
    refine ⟨none, 0, none, 0, by simpa using this, Nat.le_refl _, ⟨fun _ => rfl, fun h => absurd rfl h⟩, Nat.le_refl _, ⟨ReadsOf.nil _ _ _, fun _ => rfl⟩, Nat.le_refl _⟩
  generalize (w.alloc (.cells #[.int .i64 n, .string msg, .slice SA steps.length sc, .slice AA (logL r).length ac] 49)).alloc (.cells #[.bool true, .slice none 0 0, .string ⟨#[]⟩, .slice none 0 0, .int .i64 0] 68) = W0 at *
  have H0 := Lib.hid (And.intro hb0 (And.intro hl0 hh0))
  generalize w.heap.size + 1 = hb at *
  clear hb0 hl0 hh0
  go_loopg [5, 15] (steps.length) (fun j v5 v15 wr => ∃ (i b : Nat), v15 = .int .i64 i ∧ v5 = .pointer (some ⟨b, 0, none⟩) ∧ Aside (i ≤ steps.length ∧ j = steps.length - i ∧ Hd wr b ((steps.take i).foldl stepH ⟨[], [], 0⟩) ∧ Below W0.heap.size W0 wr))
  case atStart => exact ⟨0, hb, rfl, rfl, Nat.zero_le _, rfl, by simpa using H0.out.2.2, Below.refl _ _⟩
  case round =>
    obtain ⟨i, b, rfl, rfl, HI⟩ := hrel
    have hlenS : steps.length ≤ 1099511627776 := by have := wtS_length steps; have := HL.out.2.1; omega
    by_cases hi : i < steps.length
    · have hi0 : decide ((i : Int) < (steps.length : Int)) = true := decide_eq_true (by omega)
      have hBw : Below w.heap.size w wr := H0.out.1.trans (HI.out.2.2.2.mono H0.out.1.size)
      obtain ⟨ad, A1, c1, e, hx0, hx1, hx2, hl1, hF1⟩ := at59 steps (Kd.C_below HS.out.1 hBw) i hi
      cases e
      have hok := hs_take steps i (by omega)
      have hwt := wtS_take steps i hi
      have e1 : steps.take (i + 1) = steps.take i ++ [steps[i]] := (List.take_append_getElem hi).symm
      have e2 : (steps.take (i + 1)).foldl stepH ⟨[], [], 0⟩ = stepH ((steps.take i).foldl stepH ⟨[], [], 0⟩) steps[i] := by rw [e1, List.foldl_append]; rfl
      have hwl := wtS_take_le steps i
      generalize (steps.take i).foldl stepH ⟨[], [], 0⟩ = H at *
      generalize steps[i] = s at *
      obtain ⟨key, l, f⟩ := s
      simp only at hx0 hx1 hx2 hl1 hF1
      have hba : Below wr.heap.size wr (wr.alloc (.cells #[.string key, .slice A1 (logL l).length c1, .bool f] 59)) := (Below.refl _ _).alloc (Nat.le_refl _) _
      have hHd := HI.out.2.2.1.below hba
      have hBW := HI.out.2.2.2.trans (hba.mono HI.out.2.2.2.size)
      have hC1 := Kd.C_below hF1 hba
      have HW := Lib.hid (And.intro hHd (And.intro hBW (And.intro hC1 (And.intro hl1 HI.out.2.1))))
      have HO := Lib.hid (And.intro hok (And.intro hwt (And.intro hwl e2)))
      have X0 := Blk.new wr 59 #[.string key, .slice A1 (logL l).length c1, .bool f]
      have HX := Lib.hid X0
      clear hok hwt hwl e1 e2 hHd hBW hC1 hl1 hF1 hba hBw HI X0
      cases f with
      | true =>
        by_cases hk : key.size = 0
        · have hk0 : key.toList.isEmpty = true := List.isEmpty_iff.2 ((size0 key).2 hk)
          go_wp2_with fail
          go_roundg (steps.length - (i + 1))
          case measure => have := HW.out.2.2.2.2; omega
          case rel =>
            refine ⟨i + 1, b, ?_, rfl, hi, rfl, ?_, HW.out.2.1⟩
            · first
              | (simp; done)
              | (rw [IntWalk.wrap64_in _ ⟨by omega, by omega⟩]; simp)
            · rw [HO.out.2.2.2]
              have e : stepH H ⟨key, l, true⟩ = H := by unfold stepH; simp [hk]
              rw [e]
              exact HW.out.1
        · have hk0 : key.toList.isEmpty = false := by
            cases h : key.toList.isEmpty with
            | false => rfl
            | true => exact absurd ((size0 key).1 (List.isEmpty_iff.1 h)) hk
          go_wp2_with fail
          refine (withGroup_g _ b H key HW.out.1 (by have := HO.out.1.len; omega)).mono ?_
          rintro e w2 ⟨b2, rfl, hH2, hB2⟩
          have HW2 := Lib.hid (And.intro hH2 (And.intro (HW.out.2.1.trans (hB2.mono HW.out.2.1.size)) HW.out.2.2.2.2))
          clear hH2 hB2
          go_wp2_with fail
          go_roundg (steps.length - (i + 1))
          case measure => have := HW2.out.2.2; omega
          case rel =>
            refine ⟨i + 1, b2, ?_, by first | rfl | simp, hi, rfl, ?_, HW2.out.2.1⟩
            · first
              | (simp; done)
              | (rw [IntWalk.wrap64_in _ ⟨by omega, by omega⟩]; simp)
            · rw [HO.out.2.2.2]
              have e : stepH H ⟨key, l, true⟩ = withG H key := by unfold stepH; simp [hk]
              rw [e]
              exact HW2.out.1
      | false =>
        by_cases hk : (logL l).length = 0
        · have hl0 : l = [] := by cases l with | nil => rfl | cons x y => simp [logL] at hk
          generalize (logL l).length = q at *
          subst hk
          go_wp2_with fail
          go_roundg (steps.length - (i + 1))
          case measure => have := HW.out.2.2.2.2; omega
          case rel =>
            refine ⟨i + 1, b, ?_, rfl, hi, rfl, ?_, HW.out.2.1⟩
            · first
              | (simp; done)
              | (rw [IntWalk.wrap64_in _ ⟨by omega, by omega⟩]; simp)
            · rw [HO.out.2.2.2]
              have e : stepH H ⟨key, l, false⟩ = H := by 
                simp [stepH, hl0]
              rw [e]
              exact HW.out.1
        · have hk0 : decide (0 < (logL l).length) = true := decide_eq_true (by omega)
          go_wp2_with fail
          have hwl := wlog_L l
          have hw40 : wtL l < 2 ^ 40 := by have h1 := HO.out.2.1; have h2 := HL.out.2.1; unfold wS at h1; simp only at h1; omega
          have HW40 := Lib.hid (And.intro hwl hw40)
          clear hwl hw40
          refine (attrsOf33 (wL79 (logL l)) (logL l) (Nat.le_refl _) (by have := HW40.out; omega) _ A1 c1 HW.out.2.2.1 HW.out.2.2.2.1).mono ?_
          rintro e w4 ⟨v4, rfl, hN4, hb4⟩
          obtain ⟨A4, c4, rfl, hc4, hq4⟩ := Kd.N_reads hN4
          have hF4 : Kd.F k102 w4 (fun k => k < w4.heap.size) A4 (ofL (logL l)).length (ofL (logL l)) := Kd.F_mono (Kd.N_F (Kd.N_bound hN4)) (fun k hk => hk.2)
          have hH4 := HW.out.1.below hb4
          have hB4 : Below W0.heap.size W0 w4 := HW.out.2.1.trans (hb4.mono HW.out.2.1.size)
          have hBw4 : Below w.heap.size w w4 := H0.out.1.trans (hB4.mono H0.out.1.size)
          have HW4 := Lib.hid (And.intro hF4 (And.intro hH4 (And.intro hB4 hBw4)))
          clear hN4 hc4 hq4 hF4 hH4 hB4 hBw4 hb4
          go_wp2_with fail
          refine (withAttrs_g w4 b H (ofL (logL l)) A4 _ c4 HW4.out.2.1 (HT.out.below HW4.out.2.2.2 hB6) (Nat.le_trans hB6 HW4.out.2.2.2.size) HW4.out.1 (good_log l) HO.out.1.last (by
            have h1 := HO.out.1.phi
            have h2 := bulk_ofL l
            have h3 := HO.out.2.2.1
            have h4 := HL.out.2.1
            have h5 := HW40.out.2
            unfold phi at h1
            omega)).mono ?_
          rintro e w2 ⟨b2, rfl, hH2, hB2⟩
          have HW2 := Lib.hid (And.intro hH2 (And.intro (HW4.out.2.2.1.trans (hB2.mono HW4.out.2.2.1.size)) HW.out.2.2.2.2))
          clear hH2 hB2
          go_wp2_with fail
          go_roundg (steps.length - (i + 1))
          case measure => have := HW2.out.2.2; omega
          case rel =>
            refine ⟨i + 1, b2, ?_, by first | rfl | simp, hi, rfl, ?_, HW2.out.2.1⟩
            · first
              | (simp; done)
              | (rw [IntWalk.wrap64_in _ ⟨by omega, by omega⟩]; simp)
            · rw [HO.out.2.2.2]
              have e : stepH H ⟨key, l, false⟩ = withA H (ofL (logL l)) := by 
                cases l with
                | nil => simp [logL] at hk
                | cons x y => simp [stepH]
              rw [e]
              exact HW2.out.1
    · have hi0 : decide ((i : Int) < (steps.length : Int)) = false := decide_eq_false (by omega)
      have hil : i = steps.length := by have := HI.out.1; omega
      subst hil
      have hll := H0.out.2.1.below HI.out.2.2.2 H0.out.2.1.lt
      have l0 := hll.cell 0
      have l1 := hll.cell 1
      have l2 := hll.cell 2
      have l3 := hll.cell 3
      have hltl := hll.lt
      rw [List.take_length] at HI
      have hok := hs_take steps steps.length (Nat.le_refl _)
      rw [List.take_length] at hok
      have HI2 := Lib.hid (And.intro HI.out (And.intro hok (H0.out.1.trans (HI.out.2.2.2.mono H0.out.1.size))))
      clear HI hok hll
      go_wp2_with fail
      have hwl := wlog_L r
      have hba : Below wr.heap.size wr (wr.alloc (.cells #[.string msg, .int .i64 n, .slice none 0 0] 75)) := (Below.refl _ _).alloc (Nat.le_refl _) _
      have hB5 : Below w.heap.size w (wr.alloc (.cells #[.string msg, .int .i64 n, .slice none 0 0] 75)) := HI2.out.2.2.trans (hba.mono HI2.out.2.2.size)
      have hR5 := Blk.new wr 75 #[.string msg, .int .i64 n, .slice none 0 0]
      have hH5 := HI2.out.1.2.2.1.below hba
      generalize hrb : wr.heap.size = rb at *
      generalize wr.alloc (.cells #[.string msg, .int .i64 n, .slice none 0 0] 75) = W5 at *
      refine (attrsOf33 (wL79 (logL r)) (logL r) (Nat.le_refl _) (by have := HL.out.2.2; omega) W5 AA ac (Kd.C_below HA.out.1 hB5) HA.out.2).mono ?_
      rintro e w4 ⟨v4, rfl, hN4, hb4⟩
      obtain ⟨A4, c4, rfl, hc4, hq4⟩ := Kd.N_reads hN4
      have hlt5 := hR5.lt
      have hF4 : Kd.F k102 w4 (fun k => rb < k ∧ k < w4.heap.size) A4 (ofL (logL r)).length (ofL (logL r)) := Kd.F_mono (Kd.N_F (Kd.N_bound hN4)) (fun k hk => ⟨by have := hk.1; omega, hk.2⟩)
      have hR4 := hR5.below hb4 hlt5
      have hBrb : w.heap.size ≤ rb := by rw [← hrb]; exact HI2.out.2.2.size
      have hBr : Below rb wr w4 := hba.trans (hb4.mono (by rw [← hrb]; exact hba.size))
      have H6 := Lib.hid (And.intro hF4 (And.intro hR4 (And.intro hBr (And.intro (hB5.trans (hb4.mono hB5.size)) hBrb))))
      clear hN4 hc4 hq4 hF4 hR4 hBrb hb4 hB5 hR5 hH5 hba hlt5 hBr
      go_wp2_with fail
      refine (addAttrs34 w4 rb msg n A4 _ c4 (ofL (logL r)) H6.out.2.1 H6.out.1 (by have h1 := ofL_length (logL r); have h2 := wL79_length (logL r); have h3 := HL.out.2.2; omega)).mono ?_
      rintro e w6 ⟨rfl, v6, hR6, hN6, hB6'⟩
      obtain ⟨A6, c6, rfl, hc6, hq6⟩ := Kd.N_reads hN6
      have r0 := hR6.cell 0
      have r1 := hR6.cell 1
      have r2 := hR6.cell 2
      have H7 := Lib.hid (And.intro hN6 (And.intro hR6 (And.intro hB6' hc6)))
      clear hN6 hR6 hB6' hc6 hq6
      go_wp2_with fail
      have hB8 : Below w.heap.size w w6 := H6.out.2.2.2.1.trans (H7.out.2.2.1.mono H6.out.2.2.2.2)
      have hBr8 : Below wr.heap.size wr w6 := by rw [hrb]; exact H6.out.2.2.1.trans H7.out.2.2.1
      refine (handle35 w6 b (steps.foldl stepH ⟨[], [], 0⟩) (HI2.out.1.2.2.1.below hBr8) HI2.out.2.1.last (HT.out.below hB8 hB6) (Nat.le_trans hB6 hB8.size) n hn0 hn1 msg _ A6 c6 (Kd.F_mono (Kd.N_F (Kd.N_bound H7.out.1)) (fun k hk => hk.2)) (fun a ha => good_log r a (List.mem_filter.1 ha).1) (by
        have g1 := HI2.out.2.1.phi
        have g2 := bulk_ofL r
        have g3 := bulk_filter (ofL (logL r))
        have g4 := HL.out
        have g5 := HI2.out.2.1.len
        have g6 := wtS_length steps
        unfold phi at g1
        omega)).mono ?_
      rintro e w9 ⟨rfl, hB9⟩
      have HZ := Lib.hid (hB8.trans (hB9.mono hB8.size))
      clear hB9 hB8 hBr8 r0 r1 r2
      go_wp2_with fail
      go_ret
      exact ⟨rfl, HZ.out⟩
set_option maxRecDepth 100000 in
set_option maxHeartbeats 2000000 in
/-- the package's JSONLine. -/
theorem jsonLine19 (w : World) (hT : Tabs w) (hB6 : 6 ≤ w.heap.size) (n : Int) (hn0 : -4 ≤ n) (hn1 : n ≤ 8) (msg : ByteArray) (steps : List S36) (r : List S34) (SA AA : Option Addr) (sc ac : Nat)
    (hS : Kd.C k59 w SA steps.length (steps.map logS)) (hsc : steps.length ≤ sc) (hA : Kd.C k79 w AA (logL r).length (logL r)) (hac : (logL r).length ≤ ac)
    (h1 : msg.size < 2 ^ 40) (h2 : wtS steps < 2 ^ 40) (h3 : wtL r < 2 ^ 40) :
    Calls Tryz.prog 19 #[.agg #[.int .i64 n, .string msg, .slice SA steps.length sc, .slice AA (logL r).length ac]] w fun e w' =>
      e = .returned (.string ⟨(lineJ (lvl n) msg (steps.foldl stepH ⟨[], [], 0⟩) (recOf r)).toArray⟩) ∧ Below w.heap.size w w' := by
  have hba : Below w.heap.size w (w.alloc (.cells #[.int .i64 n, .string msg, .slice SA steps.length sc, .slice AA (logL r).length ac] 49)) := (Below.refl _ _).alloc (Nat.le_refl _) _
  have k27 := Lib.hid (line27 (w.alloc (.cells #[.int .i64 n, .string msg, .slice SA steps.length sc, .slice AA (logL r).length ac] 49)) (hT.below hba hB6) (Nat.le_trans hB6 hba.size) n hn0 hn1 msg steps r SA AA sc ac (Kd.C_below hS hba) hsc (Kd.C_below hA hba) hac h1 h2 h3)
  have HB := Lib.hid hba
  clear hT hS hsc hA hac h1 h2 h3 hba
  go_enter Tryz.func19, Tryz.ntmps19
  go_wp2_with fail
  refine k27.out.mono ?_
  rintro e w2 ⟨rfl, hb2⟩
  have HZ := Lib.hid (HB.out.trans (hb2.mono HB.out.size))
  clear hb2 k27
  go_wp2_with fail
  go_ret
  exact ⟨rfl, HZ.out⟩
set_option maxRecDepth 100000 in
set_option maxHeartbeats 2000000 in
/-- the thin package's JSONLine. -/
theorem jsonLine8 (w : World) (hT : Tabs w) (hB6 : 6 ≤ w.heap.size) (n : Int) (hn0 : -4 ≤ n) (hn1 : n ≤ 8) (msg : ByteArray) (steps : List S36) (r : List S34) (SA AA : Option Addr) (sc ac : Nat)
    (hS : Kd.C k36 w SA steps.length steps) (hsc : steps.length ≤ sc) (hA : Kd.C k34 w AA r.length r) (hac : r.length ≤ ac)
    (h1 : msg.size < 2 ^ 40) (h2 : wtS steps < 2 ^ 40) (h3 : wtL r < 2 ^ 40) :
    Calls Tryz.prog 8 #[.agg #[.int .i64 n, .string msg, .slice SA steps.length sc, .slice AA r.length ac]] w fun e w' =>
      e = .returned (.string ⟨(lineJ (lvl n) msg (steps.foldl stepH ⟨[], [], 0⟩) (recOf r)).toArray⟩) ∧ Below w.heap.size w w' := by
  have hba : Below w.heap.size w (w.alloc (.cells #[.int .i64 n, .string msg, .slice SA steps.length sc, .slice AA r.length ac] 25)) := (Below.refl _ _).alloc (Nat.le_refl _) _
  have k20 := Lib.hid (impl_log.calls (wtL r + wtS steps + 2) n msg SA sc steps AA ac r n msg (steps.map logS) (logL r) (w.alloc (.cells #[.int .i64 n, .string msg, .slice SA steps.length sc, .slice AA r.length ac] 25)) (Kd.C_below hS hba) hsc (Kd.C_below hA hba) hac (log_f _ n msg steps r (by omega) h3 (by omega) h2))
  have HB := Lib.hid hba
  have HT := Lib.hid hT
  have HL := Lib.hid (And.intro h1 (And.intro h2 h3))
  clear hT hS hsc hA hac h1 h2 h3 hba
  go_enter Tryz.func8, Tryz.ntmps8
  go_wp2_with fail
  refine k20.out.mono ?_
  rintro e w2 ⟨v2, v3, rfl, hR2, hR3, hb2⟩
  obtain ⟨A2, c2, rfl, hc2, hC2⟩ := Kd.N_reads (Kd.R_N hR2)
  obtain ⟨A3, c3, rfl, hc3, hC3⟩ := Kd.N_reads (Kd.R_N hR3)
  rw [List.length_map] at hc2 hC2
  have hbw := HB.out.trans (hb2.mono HB.out.size)
  have k19 := Lib.hid (jsonLine19 w2 (HT.out.below hbw hB6) (Nat.le_trans hB6 hbw.size) n hn0 hn1 msg steps r A2 A3 c2 c3 hC2 hc2 hC3 hc3 HL.out.1 HL.out.2.1 HL.out.2.2)
  have HW := Lib.hid hbw
  clear hR2 hR3 hb2 hc2 hC2 hc3 hC3 hbw k20
  go_wp2_with fail
  refine k19.out.mono ?_
  rintro e w3 ⟨rfl, hb3⟩
  have HZ := Lib.hid (HW.out.trans (hb3.mono HW.out.size))
  clear hb3 k19
  go_wp2_with fail
  go_ret
  exact ⟨rfl, HZ.out⟩
end Go.Proofs.YtcllhgajdcemiaaGreatDoor.jb
