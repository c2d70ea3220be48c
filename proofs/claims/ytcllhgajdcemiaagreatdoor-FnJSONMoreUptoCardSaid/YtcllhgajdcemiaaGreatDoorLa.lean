/-
  PLaw: THE PLAIN LAWS OF THE LINE: its length, and what spec.Members answers is what is read back.
  Law3: THE LAW FnJSONBack: true at every log whose trees are not too large.
-/
import Derived.Test.YtcllhgajdcemiaaGreatDoorSa
import Derived.Test.YtcllhgajdcemiaaGreatDoorSb
import Derived.Test.YtcllhgajdcemiaaGreatDoorGh
import Derived.Test.YtcllhgajdcemiaaGreatDoorWk
namespace Go.Proofs.YtcllhgajdcemiaaGreatDoor.jb
open Go.RowKit Go.Proofs.YtcllhgajdcemiaaGreatDoor.PFnJSONBack
open Go.Proofs.YtcllhgajdcemiaaGreatDoor.wk (lvl)
set_option linter.unusedVariables false
set_option linter.unusedSimpArgs false
mutual
theorem renA_len : ∀ (a : S34) (sep : ByteArray), sep.size ≤ 1 → (renA sep a).length ≤ 6 * wtA a
  | ⟨k, v, g, l⟩, sep, h => by
    have h1 := keyG_length sep k h
    have h2 := renL_len l ⟨#[]⟩ (Nat.zero_le _)
    have h3 := quo_length v
    simp only [renA, wtA]
    cases g
    · simp only [Bool.false_eq_true, if_false, List.length_append]
      omega
    · simp only [if_true, List.length_append, List.length_singleton]
      omega
theorem renL_len : ∀ (l : List S34) (sep : ByteArray), sep.size ≤ 1 → (renL sep l).length ≤ 6 * wtL l
  | [], sep, h => by simp [renL]
  | a :: l, sep, h => by
    have h1 := renA_len a sep h
    have h2 := renL_len l ⟨#[44]⟩ (Nat.le_refl _)
    simp only [renL, wtL, List.length_append]
    omega
end
theorem lvl_cases (n : Int) (h0 : -4 ≤ n) (h1 : n ≤ 8) : n = -4 ∨ n = -3 ∨ n = -2 ∨ n = -1 ∨ n = 0 ∨ n = 1 ∨ n = 2 ∨ n = 3 ∨ n = 4 ∨ n = 5 ∨ n = 6 ∨ n = 7 ∨ n = 8 := by omega
theorem lvl_len (n : Int) (h0 : -4 ≤ n) (h1 : n ≤ 8) : (lvl n).size ≤ 7 := by
  rcases lvl_cases n h0 h1 with rfl | rfl | rfl | rfl | rfl | rfl | rfl | rfl | rfl | rfl | rfl | rfl | rfl <;> decide
theorem lvl_coh (n : Int) (h0 : -4 ≤ n) (h1 : n ≤ 8) : cohB (lvl n) = lvl n := by
  rcases lvl_cases n h0 h1 with rfl | rfl | rfl | rfl | rfl | rfl | rfl | rfl | rfl | rfl | rfl | rfl | rfl <;> simp [lvl, cohB, cohL_ascii, cohL_nil]
theorem coh_level : cohB keyLevelB = keyLevelB := by simp [keyLevelB, cohB, cohL_ascii, cohL_nil]
theorem coh_msg : cohB keyMsgB = keyMsgB := by simp [keyMsgB, cohB, cohL_ascii, cohL_nil]
theorem membs_eq (n : Int) (h0 : -4 ≤ n) (h1 : n ≤ 8) (msg : ByteArray) (N : List S34) : utfL (membs (lvl n) msg (shownL N)) = membsU n msg N := by
  simp [membs, membsU, utfL, utfA, lvl_coh n h0 h1, coh_level, coh_msg]
theorem wt_membs (n : Int) (h0 : -4 ≤ n) (h1 : n ≤ 8) (msg : ByteArray) (S : List S34) : wtL (membs (lvl n) msg S) ≤ msg.size + wtL S + 100 := by
  have := lvl_len n h0 h1
  have e1 : keyLevelB.size = 5 := rfl
  have e2 : keyMsgB.size = 3 := rfl
  simp only [membs, wtL, wtA]
  omega
theorem cohL_len : ∀ (n : Nat) (l : List UInt8), l.length ≤ n → (cohL l).length ≤ 3 * l.length
  | 0, l, h => by
    have : l = [] := List.eq_nil_of_length_eq_zero (by omega)
    subst this
    rw [cohL_nil]
    simp
  | n + 1, [], h => by rw [cohL_nil]; simp
  | n + 1, c :: t, h => by
    simp only [List.length_cons] at h
    by_cases h1 : c.toNat < 128
    · rw [cohL_ascii c t h1]
      have := cohL_len n t (by omega)
      simp only [List.length_cons]
      omega
    · by_cases h2 : Lib.decodeL (c :: t) = (65533, 1)
      · rw [cohL_bad c t h1 h2]
        have := cohL_len n t (by omega)
        simp only [List.length_cons, List.length_append, List.length_nil]
        omega
      · rw [cohL_rune c t h1 h2]
        have h3 := cohL_len n (t.drop ((Lib.decodeL (c :: t)).2 - 1)) (by rw [List.length_drop]; omega)
        rw [List.length_drop] at h3
        rw [List.length_append, List.length_take]
        simp only [List.length_cons]
        omega
theorem cohB_len (s : ByteArray) : (cohB s).size ≤ 3 * s.size := by
  have := cohL_len _ s.data.toList (Nat.le_refl _)
  rw [← Lib.size_eq] at this
  rw [Lib.size_eq (cohB s)]
  exact this
mutual
theorem wt_utfA : ∀ a : S34, wtA (utfA a) ≤ 3 * wtA a
  | ⟨k, v, g, l⟩ => by
    have h1 := wt_utfL l
    have h2 := cohB_len k
    have h3 := cohB_len v
    simp only [utfA, wtA]
    omega
theorem wt_utfL : ∀ l : List S34, wtL (utfL l) ≤ 3 * wtL l
  | [] => by simp [utfL, wtL]
  | a :: l => by
    have h1 := wt_utfA a
    have h2 := wt_utfL l
    simp only [utfL, wtL]
    omega
end
theorem line_len (n : Int) (h0 : -4 ≤ n) (h1 : n ≤ 8) (msg : ByteArray) (N : List S34) (hm : msg.size < 2 ^ 36) (hw : wtL N < 2 ^ 36) : ([123] ++ renL ⟨#[]⟩ (membs (lvl n) msg (shownL N)) ++ [125, 10]).length ≤ 1099511627776 := by
  have e1 := renL_len (membs (lvl n) msg (shownL N)) ⟨#[]⟩ (Nat.zero_le _)
  have e2 := wt_membs n h0 h1 msg (shownL N)
  have e3 := wt_shownL N
  simp only [List.length_append, List.length_cons, List.length_nil]
  omega
end Go.Proofs.YtcllhgajdcemiaaGreatDoor.jb

namespace Go.Proofs.YtcllhgajdcemiaaGreatDoor.jb
open Go.RowKit Go.Proofs.YtcllhgajdcemiaaGreatDoorW.PrintWords Go.Proofs.YtcllhgajdcemiaaGreatDoorW.PrintLast Go.Proofs.YtcllhgajdcemiaaGreatDoorW.PrintMore
open Go.Proofs.YtcllhgajdcemiaaGreatDoor.PFnJSONBack
open Go.Proofs.YtcllhgajdcemiaaGreatDoor.wk (Blk lvl works_ok)
set_option linter.unusedVariables false
set_option linter.unusedSimpArgs false
theorem zz5 (w : World) (n : Int) (msg : ByteArray) (steps : List S36) (r : List S34) (SA AA : Option Addr) (sc ac : Nat)
    (hS : Kd.C k36 w SA steps.length steps) (hsc : steps.length ≤ sc) (hA : Kd.C k34 w AA r.length r) (hac : r.length ≤ ac) (hm : msg.size ≤ 2147483647) (h2 : steps.length ≤ 2147483647) (h3 : r.length ≤ 2147483647) :
    Calls Tryz.prog 5 #[.agg #[.int .i64 n, .string msg, .slice SA steps.length sc, .slice AA r.length ac]] w fun e w' => e = .returned (.bool true) ∧ Below w.heap.size w w' := by
  refine laws_zzFits1.calls n msg SA sc steps AA ac r true w hS hsc hA hac ?_
  unfold laws_zzFits1.f
  rw [if_neg (by omega), if_neg (by omega), if_neg (by omega)]
set_option maxRecDepth 100000 in
set_option maxHeartbeats 4000000 in
theorem law3 (w : World) (hT : Tabs w) (hSf : Go.Proofs.YtcllhgajdcemiaaGreatDoor.wk.Safe w) (hB6 : 6 ≤ w.heap.size) (n : Int) (msg : ByteArray) (steps : List S36) (r : List S34) (SA AA : Option Addr) (sc ac : Nat)
    (hS : Kd.C k36 w SA steps.length steps) (hsc : steps.length ≤ sc) (hA : Kd.C k34 w AA r.length r) (hac : r.length ≤ ac) (hm : msg.size < 2 ^ 30) (hw : wtS steps + wtL r < 2 ^ 30) :
    Calls Tryz.prog 3 #[.agg #[.int .i64 n, .string msg, .slice SA steps.length sc, .slice AA r.length ac]] w fun e w' => e = .returned (.bool true) ∧ Below w.heap.size w w' := by
  have hba : Below w.heap.size w (w.alloc (.cells #[.int .i64 n, .string msg, .slice SA steps.length sc, .slice AA r.length ac] 25)) := (Below.refl _ _).alloc (Nat.le_refl _) _
  have hX := Blk.new w 25 #[.int .i64 n, .string msg, .slice SA steps.length sc, .slice AA r.length ac]
  have hl1 := wtS_length steps
  have hl2 := wtL_length r
  have hN := wt_nested steps r
  have hin := fun w1 (hb : Below w.heap.size w w1) => And.intro (Kd.C_below hS hb) (Kd.C_below hA hb)
  have k5 := Lib.hid (fun w1 (hb : Below w.heap.size w w1) => zz5 w1 n msg steps r SA AA sc ac (hin w1 hb).1 hsc (hin w1 hb).2 hac (by omega) (by omega) (by omega))
  have k6 := Lib.hid (fun w1 (hb : Below w.heap.size w w1) => fits6 w1 n msg steps r SA AA sc ac (hin w1 hb).1 hsc (hin w1 hb).2 hac (by omega))
  have k8 := Lib.hid (fun w1 (hb : Below w.heap.size w w1) (h0 : -4 ≤ n) (h1 : n ≤ 8) => jsonLine8 w1 (hT.below hb hB6) (Nat.le_trans hB6 hb.size) n h0 h1 msg steps r SA AA sc ac (hin w1 hb).1 hsc (hin w1 hb).2 hac (by omega) (by omega) (by omega))
  have k10 := Lib.hid (fun w1 (hb : Below w.heap.size w w1) (h0 : -4 ≤ n) (h1 : n ≤ 8) => members10 w1 n h0 h1 msg steps r SA AA sc ac (hin w1 hb).1 hsc (hin w1 hb).2 hac (by omega) (by omega))
  have k11 := Lib.hid (fun w1 (hb : Below w.heap.size w w1) => works_ok w1 (hSf.below hb (by omega)) (by have := hb.size; omega))
  have HBa := Lib.hid (And.intro hba hX)
  have HN := Lib.hid (And.intro hm (And.intro hN hw))
  clear hT hSf hB6 hS hsc hA hac hm hw hl1 hl2 hN hin hba hX
  go_enter Tryz.func3, Tryz.ntmps3
  go_wp2_with fail
  refine (k5.out _ HBa.out.1).mono ?_
  rintro e w1 ⟨rfl, hb1⟩
  have hX1 := HBa.out.2.below hb1 (by simp)
  have hB1 := HBa.out.1.trans (hb1.mono HBa.out.1.size)
  have a0 := hX1.cell 0
  have a1 := hX1.cell 1
  have a2 := hX1.cell 2
  have a3 := hX1.cell 3
  have H1 := Lib.hid (And.intro hB1 hX1)
  clear hX1 hB1 hb1
  go_wp2_with fail
  refine (k6.out _ H1.out.1).mono ?_
  rintro e w2 ⟨rfl, hb2⟩
  have hX2 := H1.out.2.below hb2 H1.out.2.lt
  have hB2 := H1.out.1.trans (hb2.mono H1.out.1.size)
  have b0 := hX2.cell 0
  have b1 := hX2.cell 1
  have b2 := hX2.cell 2
  have b3 := hX2.cell 3
  have H2 := Lib.hid (And.intro hB2 hX2)
  clear hX2 hB2 hb2 a0 a1 a2 a3
  cases hf : fitsB n (nestedL steps r) with
  | false =>
    go_wp2_with fail
    go_ret
    exact ⟨rfl, H2.out.1⟩
  | true =>
    have hn : -4 ≤ n ∧ n ≤ 8 := by
      unfold fitsB inR at hf
      simp only [Bool.and_eq_true, decide_eq_true_eq] at hf
      exact hf.1.1
    have HF := Lib.hid hn
    clear hn
    go_wp2_with fail
    refine (k8.out _ H2.out.1 HF.out.1 HF.out.2).mono ?_
    rintro e w3 ⟨rfl, hb3⟩
    have hX3 := H2.out.2.below hb3 H2.out.2.lt
    have hB3 := H2.out.1.trans (hb3.mono H2.out.1.size)
    have c0 := hX3.cell 0
    have c1 := hX3.cell 1
    have c2 := hX3.cell 2
    have c3 := hX3.cell 3
    rw [line_is]
    have hll := line_len n HF.out.1 HF.out.2 msg (nestedL steps r) (by have := HN.out.1; omega) (by have := HN.out.2; omega)
    obtain ⟨S, hS⟩ : ∃ S : ByteArray, S = ⟨([123] ++ renL ⟨#[]⟩ (membs (lvl n) msg (shownL (nestedL steps r))) ++ [125, 10]).toArray⟩ := ⟨_, rfl⟩
    rw [← hS]
    have hSd : S.data.toList = [123] ++ renL ⟨#[]⟩ (membs (lvl n) msg (shownL (nestedL steps r))) ++ [125, 10] := by rw [hS]
    have k7 := Lib.hid (fun w0 => readJSON7 (membs (lvl n) msg (shownL (nestedL steps r))) w0 S (fine_membs _ _ _) (by simp [membs]) hSd (by rw [Lib.size_eq, hSd]; exact hll))
    rw [membs_eq n HF.out.1 HF.out.2] at k7
    have H3 := Lib.hid (And.intro hB3 hX3)
    clear hX3 hB3 hb3 b0 b1 b2 b3 hll hS hSd
    go_wp2_with fail
    refine (k7.out _).mono ?_
    rintro e w4 ⟨A4, q4, rfl, hc4, hC4, hb4⟩
    have hX4 := H3.out.2.below hb4 H3.out.2.lt
    have hB4 := H3.out.1.trans (hb4.mono H3.out.1.size)
    have d0 := hX4.cell 0
    have d1 := hX4.cell 1
    have d2 := hX4.cell 2
    have d3 := hX4.cell 3
    have H4 := Lib.hid (And.intro hB4 (And.intro hX4 (And.intro hc4 hC4)))
    clear hX4 hB4 hb4 c0 c1 c2 c3 hc4 hC4 k7
    go_wp2_with fail
    refine (k10.out _ H4.out.1 HF.out.1 HF.out.2).mono ?_
    rintro e w5 ⟨A5, q5, rfl, hc5, hC5, hb5⟩
    have hB5 := H4.out.1.trans (hb5.mono H4.out.1.size)
    have hwm : wtL (membsU n msg (nestedL steps r)) < 2 ^ 40 := by
      rw [← membs_eq n HF.out.1 HF.out.2]
      have e1 := wt_utfL (membs (lvl n) msg (shownL (nestedL steps r)))
      have e2 := wt_membs n HF.out.1 HF.out.2 msg (shownL (nestedL steps r))
      have e3 := wt_shownL (nestedL steps r)
      have e4 := HN.out.1
      have e5 := HN.out.2.1
      have e6 := HN.out.2.2
      omega
    have k9 := Lib.hid (spec_SameAttrs.calls _ A4 q4 _ A5 q5 _ true w5 (Kd.C_below H4.out.2.2.2 hb5) H4.out.2.2.1 hC5 hc5 ((same_f _).1 _ (Nat.le_refl _) hwm))
    have H5 := Lib.hid hB5
    clear hB5 hb5 hc5 hC5 hwm d0 d1 d2 d3
    go_wp2_with fail
    refine (k9.out).mono ?_
    rintro e w6 ⟨rfl, hb6⟩
    have H6 := Lib.hid (H5.out.trans (hb6.mono H5.out.size))
    clear hb6 k9
    go_wp2_with fail
    refine (k11.out _ H6.out).mono ?_
    rintro e w7 ⟨rfl, hb7⟩
    have H7 := Lib.hid (H6.out.trans (hb7.mono H6.out.size))
    clear hb7
    go_wp2_with fail
    go_ret
    exact ⟨rfl, H7.out⟩
end Go.Proofs.YtcllhgajdcemiaaGreatDoor.jb
