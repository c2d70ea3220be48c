/-
  Squote: spec.quote: a quoted string, and what stands behind it, is read back. Condition: at most 2^46 bytes.
  Sobj: spec.object: an object that was written is read back (utfL). Conditions: the text takes at most 2^40 bytes; no group is empty.
  Sread: spec.ReadJSON: a line of JSON is read back. Conditions: as for spec.object.
-/
import Derived.Test.YtcllhgajdcemiaaGreatDoorSbody
import Derived.Test.YtcllhgajdcemiaaGreatDoorSa
namespace Go.Proofs.YtcllhgajdcemiaaGreatDoor.jb
open Go.RowKit Go.Proofs.YtcllhgajdcemiaaGreatDoorW.PrintWords Go.Proofs.YtcllhgajdcemiaaGreatDoorW.PrintLast Go.Proofs.YtcllhgajdcemiaaGreatDoorW.PrintMore
open Go.Proofs.YtcllhgajdcemiaaGreatDoor.PFnJSONBack
set_option linter.unusedVariables false
set_option linter.unusedSimpArgs false
set_option maxRecDepth 100000 in
set_option maxHeartbeats 4000000 in
theorem quote26 (w : World) (S s : ByteArray) (rest : List UInt8) (hS : S.data.toList = quo s ++ rest) (hlen : S.size ≤ 70368744177664) :
    Calls Tryz.prog 26 #[.string S] w fun e w' => e = .returned (.tuple #[.string (cohB s), .string ⟨rest.toArray⟩, .bool true]) ∧ Below w.heap.size w w' := by
  have h0 : S.data.toList.drop 0 = 34 :: (escL s.data.toList ++ 34 :: rest) := by rw [List.drop_zero, hS]; simp [quo]
  have h1 : S.data.toList.drop 1 = escL s.data.toList ++ 34 :: rest := by rw [hS]; simp [quo]
  have hb := at_byte S 0 34 _ h0
  have hlt := hb.1
  have hix := hb.2
  have hsz : (escL s.data.toList).length + rest.length + 2 = S.size := by
    have := congrArg List.length hS
    rw [← Lib.size_eq] at this
    simp [quo] at this
    omega
  have he : (S.extract 1 S.size).data.toList = escL s.data.toList ++ 34 :: rest := by rw [ext_drop, h1]
  have k30 := Lib.hid (fun w0 => body30 w0 (S.extract 1 S.size) (escL s.data.toList) (cohL s.data.toList) rest he (rd_esc _ _ (Nat.le_refl _)) (by rw [ByteArray.size_extract]; omega))
  have hne : S.toList.isEmpty = false := by
    rw [Lib.toList_data, hS]
    rfl
  have HZ := Lib.hid (And.intro hS (And.intro hlen hsz))
  clear hS hlen h0 h1 hb he
  go_enter Tryz.func26, Tryz.ntmps26
  go_wp2_with fail
  refine (k30.out _).mono ?_
  rintro e w2 ⟨rfl, hb2⟩
  have HB := Lib.hid hb2
  have hsz := HZ.out.2.2
  have hle := HZ.out.2.1
  have w1e : wrap64 (1 + ((escL s.data.toList).length : Int)) = ((1 + (escL s.data.toList).length : Nat) : Int) := by
    rw [IntWalk.wrap64_in _ ⟨by omega, by omega⟩]
    omega
  have w2e : wrap64 (((escL s.data.toList).length : Int) + 2) = (((escL s.data.toList).length + 2 : Nat) : Int) := by
    rw [IntWalk.wrap64_in _ ⟨by omega, by omega⟩]
    omega
  have c1 : decide ((S.size : Int) ≤ ((1 + (escL s.data.toList).length : Nat) : Int)) = false := decide_eq_false (by omega)
  have b1 : (escL s.data.toList).length + 2 ≤ S.size := by omega
  clear hb2 k30
  have ee : (S.extract ((escL s.data.toList).length + 2) S.size).data.toList = rest := by
    rw [ext_drop, HZ.out.1]
    simp [quo]
  go_wp2_with fail
  go_region
  all_goals
    go_wp2_with fail
    refine bodyPost_ret (v := .tuple #[.string ⟨(cohL s.data.toList).toArray⟩, .string (S.extract ((escL s.data.toList).length + 2) S.size), .bool true]) (by simp [results, Tryz.results26, go_sem]) rfl ⟨?_, ?_⟩
    · rw [show S.extract ((escL s.data.toList).length + 2) S.size = ⟨rest.toArray⟩ from ba_ext (by rw [ee])]
      rfl
    · exact (HB.out.drew)
end Go.Proofs.YtcllhgajdcemiaaGreatDoor.jb

namespace Go.Proofs.YtcllhgajdcemiaaGreatDoor.jb
open Go.RowKit Go.Proofs.YtcllhgajdcemiaaGreatDoorW.PrintWords Go.Proofs.YtcllhgajdcemiaaGreatDoorW.PrintLast Go.Proofs.YtcllhgajdcemiaaGreatDoorW.PrintMore
open Go.Proofs.YtcllhgajdcemiaaGreatDoor.PFnJSONBack
open Go.Proofs.YtcllhgajdcemiaaGreatDoor.wk (Blk)
set_option linter.unusedVariables false
set_option linter.unusedSimpArgs false
theorem head_str (s : ByteArray) (c : UInt8) (t : List UInt8) (h : s.data.toList = c :: t) : s.toList.isEmpty = false ∧ 0 < s.size ∧ (∀ hn : 0 < s.size, ((s[0]'hn).toNat : Int) = c.toNat) ∧ (s.extract 1 s.size).data.toList = t ∧ s.size = t.length + 1 := by
  have h0 := at_byte s 0 c t (by rw [List.drop_zero, h])
  refine ⟨?_, h0.1, h0.2, ?_, ?_⟩
  · rw [Lib.toList_data, h]
    rfl
  · rw [ext_drop, h]
    rfl
  · have := congrArg List.length h
    rw [← Lib.size_eq, List.length_cons] at this
    exact this
theorem ren_one (k v : ByteArray) (g : Bool) (m t : List S34) (rest : List UInt8) :
    renL ⟨#[]⟩ (⟨k, v, g, m⟩ :: t) ++ rest = quo k ++ 58 :: ((if g then 123 :: (renL ⟨#[]⟩ m ++ 125 :: (renL ⟨#[44]⟩ t ++ rest)) else quo v ++ (renL ⟨#[44]⟩ t ++ rest))) := by
  cases g <;> simp [renL, renA, keyG, List.append_assoc]
theorem utfL_append : ∀ a b : List S34, utfL (a ++ b) = utfL a ++ utfL b
  | [], b => by simp [utfL]
  | x :: a, b => by simp [utfL, utfL_append a b]
def ObjCon (l : List S34) : Prop := ∀ (w : World) (S : ByteArray) (rest : List UInt8), fineL l = true → l ≠ [] → S.data.toList = 123 :: (renL ⟨#[]⟩ l ++ 125 :: rest) → S.size ≤ 1099511627776 →
  Calls Tryz.prog 18 #[.string S] w fun e w' => ∃ v, e = .returned (.tuple #[v, .string ⟨rest.toArray⟩, .bool true]) ∧ Kd.N k34 34 w' w.heap.size (fun k => w.heap.size ≤ k) v (utfL l) ∧ Below w.heap.size w w'
set_option maxRecDepth 100000 in
set_option maxHeartbeats 4000000 in
theorem obj_step (n : Nat) (ih : ∀ m, wtL m < n → ObjCon m) (l : List S34) (hwt : wtL l ≤ n) : ObjCon l := by
  intro w S rest hfine hlne hS hlen
  obtain ⟨a1, a2, a3, a4, a5⟩ := head_str S 123 _ hS
  have HL := Lib.hid (And.intro hlen (And.intro hwt (And.intro a4 (And.intro a5 (And.intro hfine hlne)))))
  clear hS hlen hwt a4 a5 hfine hlne
  go_enter Tryz.func18, Tryz.ntmps18
  go_wp2_with fail
  go_loopg [0, 2] (l.length) (fun j v0 v2 wq => ∃ (s : ByteArray) (l1 l2 : List S34) (A : Option Addr) (c : Nat), v0 = .string s ∧ v2 = .slice A (utfL l1).length c ∧ Aside (s.data.toList = renL ⟨#[]⟩ l2 ++ 125 :: rest ∧ l = l1 ++ l2 ∧ l2 ≠ [] ∧ fineL l2 = true ∧ Kd.N k34 34 wq w.heap.size (fun k => w.heap.size ≤ k) v2 (utfL l1) ∧ j = l2.length ∧ l1.length + s.size ≤ 1099511627776 ∧ Below w.heap.size w wq))
  case atStart => exact ⟨S.extract 1 S.size, [], l, none, 0, rfl, rfl, HL.out.2.2.1, rfl, HL.out.2.2.2.2.2, HL.out.2.2.2.2.1, Kd.N_nil _ _ _ _ _, rfl, by have := HL.out.1; have := HL.out.2.2.2.1; rw [Lib.size_eq, HL.out.2.2.1, List.length_nil]; omega, Below.refl _ _⟩
  case round =>
    obtain ⟨s, l1, l2, A, c, rfl, rfl, HI⟩ := hrel
    obtain ⟨h1, h2, h3, h4, h5, h6, h7, h8⟩ := HI.out
    clear HI
    cases l2 with
    | nil => exact absurd rfl h3
    | cons x t =>
      obtain ⟨k, v, g, m⟩ := x
      rw [ren_one] at h1
      obtain ⟨nx, hnx⟩ : ∃ nx : ByteArray, nx.data.toList = 58 :: (if g then 123 :: (renL ⟨#[]⟩ m ++ 125 :: (renL ⟨#[44]⟩ t ++ 125 :: rest)) else quo v ++ (renL ⟨#[44]⟩ t ++ 125 :: rest)) := ⟨⟨_⟩, List.toList_toArray⟩
      rw [← hnx] at h1
      have k26 := Lib.hid (fun w0 => quote26 w0 s k nx.data.toList h1 (by omega))
      have enx : (⟨nx.data.toList.toArray⟩ : ByteArray) = nx := by simp
      rw [enx] at k26
      obtain ⟨s1, s2, s3, s4, s5⟩ := head_str s 34 (escL k.data.toList ++ 34 :: nx.data.toList) (by rw [h1]; simp [quo])
      have s5' := s5
      rw [List.length_append, List.length_cons, ← Lib.size_eq] at s5'
      obtain ⟨n1, n2, n3, n4, n5⟩ := head_str nx 58 _ hnx
      generalize hsq : nx.extract 1 nx.size = sq at *
      have HI := Lib.hid (And.intro h2 (And.intro h4 (And.intro h5 (And.intro h6 (And.intro h7 (And.intro h8 (And.intro n4 (And.intro n5 s5'))))))))
      clear h1 h2 h3 h4 h5 h6 h7 h8 n4 n5 s5 s4 hnx enx s5'
      go_wp2_with fail
      refine (k26.out _).mono ?_
      rintro e w1 ⟨rfl, hb1⟩
      obtain ⟨r2, hr2⟩ : ∃ r2 : ByteArray, r2.data.toList = renL ⟨#[44]⟩ t ++ 125 :: rest := ⟨⟨_⟩, List.toList_toArray⟩
      have er2 : (⟨r2.data.toList.toArray⟩ : ByteArray) = r2 := by simp
      rw [← hr2] at HI
      have hr2n : r2.data.toList ≠ [] := by rw [hr2]; simp
      obtain ⟨c2, t2, hc2⟩ : ∃ c2 t2, r2.data.toList = c2 :: t2 := by
        cases h : r2.data.toList with
        | nil => exact absurd h hr2n
        | cons c2 t2 => exact ⟨c2, t2, rfl⟩
      obtain ⟨z1, z2, z3, z4, z5⟩ := head_str r2 c2 t2 hc2
      have HN := Lib.hid (Kd.N_below HI.out.2.2.1 hb1)
      have hbW : Below w.heap.size w w1 := HI.out.2.2.2.2.2.1.trans (hb1.mono HI.out.2.2.2.2.2.1.size)
      have HBW := Lib.hid hbW
      have HR := Lib.hid (And.intro hr2 (And.intro hc2 (And.intro z3 (And.intro z4 z5))))
      clear hr2 hr2n hc2 z3 z4 z5 hbW hb1 k26
      have hBa : Below w1.heap.size w1 (w1.alloc (.cells #[.string (cohB k), .string ⟨#[]⟩, .bool false, .slice none 0 0] 34)) := (Below.refl _ _).alloc (Nat.le_refl _) _
      have HBa := Lib.hid hBa
      clear hBa
      cases g with
      | true =>
        have hsq2 : sq.data.toList = 123 :: (renL ⟨#[]⟩ m ++ 125 :: r2.data.toList) := HI.out.2.2.2.2.2.2.1
        obtain ⟨q1, q2, q3, q4, q5⟩ := head_str sq 123 _ hsq2
        have hsz : sq.size ≤ 1099511627776 := by
          have e1 := HI.out.2.2.2.2.2.2.2.1
          have e2 := HI.out.2.2.2.2.2.2.2.2
          have e3 := HI.out.2.2.2.2.1
          have e4 := HI.out.2.2.2.2.2.2.1
          rw [← e4, ← Lib.size_eq] at e1
          omega
        have hcnt : l1.length + 1 + t2.length ≤ 1099511627776 := by
          have e1 := HI.out.2.2.2.2.2.2.2.1
          have e2 := HI.out.2.2.2.2.2.2.2.2
          have e3 := HI.out.2.2.2.2.1
          have e5 := congrArg List.length HI.out.2.2.2.2.2.2.1
          have e4 := congrArg List.length hsq2
          rw [← HI.out.2.2.2.2.2.2.1, ← Lib.size_eq] at e1
          rw [← Lib.size_eq, HR.out.2.1] at e4
          simp only [List.length_cons, List.length_append] at e4
          omega
        have hwm : wtL m < n := by
          have := HL.out.2.1
          rw [HI.out.1, wtL_append, wtL_cons, wtA] at this
          omega
        have hfm : fineL m = true ∧ m ≠ [] ∧ v = ⟨#[]⟩ := by
          have := HI.out.2.1
          simp only [fineL, fineA, if_true, Bool.and_eq_true, Bool.not_eq_true', decide_eq_true_eq] at this
          refine ⟨this.1.2, ?_, this.1.1.2⟩
          intro h
          rw [h] at this
          simp at this
        have HIH := Lib.hid (fun w0 => ih m hwm w0 sq r2.data.toList hfm.1 hfm.2.1 hsq2 hsz)
        rw [er2] at HIH
        have hve := hfm.2.2
        subst hve
        have hut : utfA ⟨k, ⟨#[]⟩, true, m⟩ = ⟨cohB k, ⟨#[]⟩, true, utfL m⟩ := by simp [utfA, cohB, cohL_nil]
        have hft : fineL t = true := by
          have := HI.out.2.1
          rw [fineL, Bool.and_eq_true] at this
          exact this.2
        have hgk : gk = t.length + 1 := HI.out.2.2.2.1
        have HU := Lib.hid (And.intro hut (And.intro hcnt (And.intro hft (And.intro hgk HI.out.1))))
        clear q4 q5 hsz hsq2 hut hcnt hft hgk er2 HI HBa hwm hfm
        have hB2 : Below w1.heap.size w1 (w1.alloc (.cells #[.string (cohB k), .string ⟨#[]⟩, .bool true, .slice none 0 0] 34)) := (Below.refl _ _).alloc (Nat.le_refl _) _
        have HX2 := Lib.hid (And.intro hB2 (Blk.new w1 34 #[.string (cohB k), .string ⟨#[]⟩, .bool true, .slice none 0 0]))
        clear hB2
        go_wp2_with fail
        refine (HIH.out _).mono ?_
        rintro e w3 ⟨mv, rfl, hN3, hB3⟩
        obtain ⟨A3, c3, rfl⟩ := Kd.N_slice hN3
        have hs2 : w1.heap.size + 1 = (w1.alloc (.cells #[.string (cohB k), .string ⟨#[]⟩, .bool true, .slice none 0 0] 34)).heap.size := by simp
        have hX3 := HX2.out.2.below hB3 (by rw [← hs2]; omega)
        have y0 := hX3.cell 0
        have y1 := hX3.cell 1
        have y2 := hX3.cell 2
        have y3 := hX3.cell 3
        have f3 := hX3.frozen 3
        have hB3' := HX2.out.1.trans (hB3.mono HX2.out.1.size)
        have hBW : Below w1.heap.size w1 (w3.setCell ⟨w1.heap.size, 3, none⟩ (.slice A3 (utfL m).length c3)) := hB3'.setCell (p := ⟨w1.heap.size, 3, none⟩) (Nat.le_refl _) _
        have hNW : Kd.N k34 34 (w3.setCell ⟨w1.heap.size, 3, none⟩ (.slice A3 (utfL m).length c3)) w.heap.size (fun k => w.heap.size ≤ k) (.slice A (utfL l1).length c) (utfL l1) := Kd.N_below HN.out hBW
        have hBw : Below w.heap.size w (w3.setCell ⟨w1.heap.size, 3, none⟩ (.slice A3 (utfL m).length c3)) := HBW.out.trans (hBW.mono HBW.out.size)
        have hFK : Kd.FK k34 (w3.setCell ⟨w1.heap.size, 3, none⟩ (.slice A3 (utfL m).length c3)) (fun k => w1.heap.size < k) (⟨cohB k, ⟨#[]⟩, true, utfL m⟩ : S34) [.string (cohB k), .string ⟨#[]⟩, .bool true, .slice A3 (utfL m).length c3] := k34_mkF _ _ (⟨cohB k, ⟨#[]⟩, true, utfL m⟩ : S34) (Kd.N_reads' hN3).2.1 (Kd.F_far (p := ⟨w1.heap.size, 3, none⟩) (Kd.F_mono (Kd.N_F hN3) (fun k hk => by rw [← hs2] at hk; omega)) (fun k hk => by show k ≠ w1.heap.size; omega) _)
        have hok : ∀ k, w1.heap.size < k → w.heap.size ≤ k ∧ some k ≠ (Value.slice A (utfL l1).length c).ownBlock := fun k hk => ⟨by have := HBW.out.size; omega, fun e => by have := Kd.N_lt HN.out k e.symm; omega⟩
        have hsW : w.heap.size ≤ (w3.setCell ⟨w1.heap.size, 3, none⟩ (.slice A3 (utfL m).length c3)).heap.size := hBw.size
        have hlW : ((utfL l1).length + 1) * 64 ≤ 140737488355328 := by have := HU.out.2.1; rw [utf_len]; omega
        have hZW : (w3.setCell ⟨w1.heap.size, 3, none⟩ (.slice A3 (utfL m).length c3)).heap.size = w3.heap.size := by simp [World.setCell]
        have HZW := Lib.hid hZW
        clear hZW
        have H3 := Lib.hid (And.intro hNW (And.intro hBw (And.intro hFK (And.intro hok (And.intro hsW hlW)))))
        clear hN3 hB3 hs2 hX3 hB3' hBW hNW hBw hFK hok hsW hlW
        cases t with
        | nil =>
          have hc2 : c2 = 125 ∧ t2 = rest := by
            have e1 := HR.out.1
            rw [HR.out.2.1, renL, List.nil_append] at e1
            injection e1 with e1 e2
            exact ⟨e1, e2⟩
          obtain ⟨rfl, rfl⟩ := hc2
          have z3 := HR.out.2.2.1
          go_wp2_with (at_builtin; refine Kd.N_append k34 (w0 := w) (W := (w3.setCell ⟨w1.heap.size, 3, none⟩ (.slice A3 (utfL m).length c3))) w.heap.size rfl (.tmp 85) (.tmp 87) 23 34 (.agg #[(.string ⟨#[]⟩), (.string ⟨#[]⟩), (.bool false), (.slice none 0 0)]) 64 rfl Tryz.underlying23 info34 rfl (by decide) (by omega) (.slice A (utfL l1).length c) (utfL l1) (⟨cohB k, ⟨#[]⟩, true, utfL m⟩ : S34) [.string (cohB k), .string ⟨#[]⟩, .bool true, .slice A3 (utfL m).length c3] (fun k => w.heap.size ≤ k) (fun k => w1.heap.size < k) rfl (show Value.slice (some ⟨w3.heap.size, 0, none⟩) 1 1 = _ from by rw [HZW.out]) H3.out.2.2.1 H3.out.2.2.2.1 (fun k hk => Nat.le_trans H3.out.2.2.2.2.1 hk) H3.out.1 H3.out.2.1 H3.out.2.2.2.2.1 H3.out.2.2.2.2.2 ?_; intro v4 w4 hN4 hB4 hg4 hat4; have HN4 := Lib.hid (And.intro hN4 hB4); clear hN4 hB4 hg4 hat4)
          go_region
          all_goals
            go_wp2_with fail
            refine bodyPost_ret (v := .tuple #[v4, .string (r2.extract 1 r2.size), .bool true]) (by simp [results, Tryz.results18, go_sem]) rfl ⟨v4, ?_, ?_, HN4.out.2.drew⟩
            · rw [show r2.extract 1 r2.size = ⟨t2.toArray⟩ from ba_ext (by rw [HR.out.2.2.2.1])]
            · rw [HU.out.2.2.2.2, utfL_append, utfL, HU.out.1, utfL]
              exact Kd.N_drew HN4.out.1
        | cons b t =>
          have hc2 : c2 = 44 ∧ t2 = renL ⟨#[]⟩ (b :: t) ++ 125 :: rest := by
            have e1 := HR.out.1
            rw [HR.out.2.1, renL_comma _ rfl, List.cons_append] at e1
            injection e1 with e1 e2
            exact ⟨e1, e2⟩
          obtain ⟨rfl, ht2⟩ := hc2
          have z3 := HR.out.2.2.1
          have HT := Lib.hid ht2
          clear ht2
          go_wp2_with (at_builtin; refine Kd.N_append k34 (w0 := w) (W := (w3.setCell ⟨w1.heap.size, 3, none⟩ (.slice A3 (utfL m).length c3))) w.heap.size rfl (.tmp 85) (.tmp 87) 23 34 (.agg #[(.string ⟨#[]⟩), (.string ⟨#[]⟩), (.bool false), (.slice none 0 0)]) 64 rfl Tryz.underlying23 info34 rfl (by decide) (by omega) (.slice A (utfL l1).length c) (utfL l1) (⟨cohB k, ⟨#[]⟩, true, utfL m⟩ : S34) [.string (cohB k), .string ⟨#[]⟩, .bool true, .slice A3 (utfL m).length c3] (fun k => w.heap.size ≤ k) (fun k => w1.heap.size < k) rfl (show Value.slice (some ⟨w3.heap.size, 0, none⟩) 1 1 = _ from by rw [HZW.out]) H3.out.2.2.1 H3.out.2.2.2.1 (fun k hk => Nat.le_trans H3.out.2.2.2.2.1 hk) H3.out.1 H3.out.2.1 H3.out.2.2.2.2.1 H3.out.2.2.2.2.2 ?_; intro v4 w4 hN4 hB4 hg4 hat4; have HN4 := Lib.hid (And.intro hN4 hB4); clear hN4 hB4 hg4 hat4)
          obtain ⟨A4, c4, rfl⟩ := Kd.N_slice HN4.out.1
          go_roundg ((b :: t).length)
          case measure => have := HU.out.2.2.2.1; omega
          case rel =>
            have hu : utfL (l1 ++ [⟨k, ⟨#[]⟩, true, m⟩]) = utfL l1 ++ [(⟨cohB k, ⟨#[]⟩, true, utfL m⟩ : S34)] := by rw [utfL_append, utfL, HU.out.1, utfL]
            refine ⟨r2.extract 1 r2.size, l1 ++ [⟨k, ⟨#[]⟩, true, m⟩], b :: t, A4, c4, rfl, ?_, ?_, ?_, by simp, HU.out.2.2.1, ?_, rfl, ?_, HN4.out.2⟩
            · rw [hu]
            · rw [HR.out.2.2.2.1, HT.out]
            · rw [HU.out.2.2.2.2, List.append_assoc, List.singleton_append]
            · rw [hu]
              exact HN4.out.1
            · have := HU.out.2.1
              rw [Lib.size_eq, HR.out.2.2.2.1, List.length_append, List.length_singleton]
              omega
      | false =>
        have hsq2 : sq.data.toList = quo v ++ r2.data.toList := HI.out.2.2.2.2.2.2.1
        obtain ⟨q1, q2, q3, q4, q5⟩ := head_str sq 34 (escL v.data.toList ++ 34 :: r2.data.toList) (by rw [hsq2]; simp [quo])
        have hsz : sq.size ≤ 1099511627776 := by
          have e1 := HI.out.2.2.2.2.2.2.2.1
          have e2 := HI.out.2.2.2.2.2.2.2.2
          have e3 := HI.out.2.2.2.2.1
          have e4 := HI.out.2.2.2.2.2.2.1
          rw [← e4, ← Lib.size_eq] at e1
          omega
        have hcnt : l1.length + 1 + t2.length ≤ 1099511627776 := by
          have e1 := HI.out.2.2.2.2.2.2.2.1
          have e2 := HI.out.2.2.2.2.2.2.2.2
          have e3 := HI.out.2.2.2.2.1
          have e5 := congrArg List.length HI.out.2.2.2.2.2.2.1
          have e4 := congrArg List.length hsq2
          rw [← HI.out.2.2.2.2.2.2.1, ← Lib.size_eq] at e1
          rw [← Lib.size_eq, HR.out.2.1] at e4
          simp only [List.length_cons, List.length_append] at e4
          omega
        have hme : m = [] := by
          have := HI.out.2.1
          simp only [fineL, fineA, Bool.false_eq_true, if_false, Bool.and_eq_true, List.isEmpty_iff] at this
          exact this.1
        subst hme
        have HIH := Lib.hid (fun w0 => quote26 w0 sq v r2.data.toList hsq2 (by omega))
        rw [er2] at HIH
        have hut : utfA ⟨k, v, false, []⟩ = ⟨cohB k, cohB v, false, []⟩ := by simp [utfA, utfL]
        have hft : fineL t = true := by
          have := HI.out.2.1
          rw [fineL, Bool.and_eq_true] at this
          exact this.2
        have hgk : gk = t.length + 1 := HI.out.2.2.2.1
        have HU := Lib.hid (And.intro hut (And.intro hcnt (And.intro hft (And.intro hgk HI.out.1))))
        clear q4 q5 hsz hsq2 hut hcnt hft hgk er2 HI HBa 
        have hB2 : Below w1.heap.size w1 (w1.alloc (.cells #[.string (cohB k), .string ⟨#[]⟩, .bool false, .slice none 0 0] 34)) := (Below.refl _ _).alloc (Nat.le_refl _) _
        have HX2 := Lib.hid (And.intro hB2 (Blk.new w1 34 #[.string (cohB k), .string ⟨#[]⟩, .bool false, .slice none 0 0]))
        clear hB2
        go_wp2_with fail
        refine (HIH.out _).mono ?_
        rintro e w3 ⟨rfl, hB3⟩
        have hs2 : w1.heap.size + 1 = (w1.alloc (.cells #[.string (cohB k), .string ⟨#[]⟩, .bool false, .slice none 0 0] 34)).heap.size := by simp
        have hX3 := HX2.out.2.below hB3 (by rw [← hs2]; omega)
        have y0 := hX3.cell 0
        have y1 := hX3.cell 1
        have y2 := hX3.cell 2
        have y3 := hX3.cell 3
        have f3 := hX3.frozen 1
        have hB3' := HX2.out.1.trans (hB3.mono HX2.out.1.size)
        have hBW : Below w1.heap.size w1 (w3.setCell ⟨w1.heap.size, 1, none⟩ (.string (cohB v))) := hB3'.setCell (p := ⟨w1.heap.size, 1, none⟩) (Nat.le_refl _) _
        have hNW : Kd.N k34 34 (w3.setCell ⟨w1.heap.size, 1, none⟩ (.string (cohB v))) w.heap.size (fun k => w.heap.size ≤ k) (.slice A (utfL l1).length c) (utfL l1) := Kd.N_below HN.out hBW
        have hBw : Below w.heap.size w (w3.setCell ⟨w1.heap.size, 1, none⟩ (.string (cohB v))) := HBW.out.trans (hBW.mono HBW.out.size)
        have hFK : Kd.FK k34 (w3.setCell ⟨w1.heap.size, 1, none⟩ (.string (cohB v))) (fun k => w1.heap.size < k) (⟨cohB k, cohB v, false, []⟩ : S34) [.string (cohB k), .string (cohB v), .bool false, .slice none 0 0] := k34_mkF _ _ (⟨cohB k, cohB v, false, []⟩ : S34) (Nat.le_refl _) (Kd.F_nil _ _ _)
        have hok : ∀ k, w1.heap.size < k → w.heap.size ≤ k ∧ some k ≠ (Value.slice A (utfL l1).length c).ownBlock := fun k hk => ⟨by have := HBW.out.size; omega, fun e => by have := Kd.N_lt HN.out k e.symm; omega⟩
        have hsW : w.heap.size ≤ (w3.setCell ⟨w1.heap.size, 1, none⟩ (.string (cohB v))).heap.size := hBw.size
        have hlW : ((utfL l1).length + 1) * 64 ≤ 140737488355328 := by have := HU.out.2.1; rw [utf_len]; omega
        have hZW : (w3.setCell ⟨w1.heap.size, 1, none⟩ (.string (cohB v))).heap.size = w3.heap.size := by simp [World.setCell]
        have HZW := Lib.hid hZW
        clear hZW
        have H3 := Lib.hid (And.intro hNW (And.intro hBw (And.intro hFK (And.intro hok (And.intro hsW hlW)))))
        clear hB3 hs2 hX3 hB3' hBW hNW hBw hFK hok hsW hlW
        cases t with
        | nil =>
          have hc2 : c2 = 125 ∧ t2 = rest := by
            have e1 := HR.out.1
            rw [HR.out.2.1, renL, List.nil_append] at e1
            injection e1 with e1 e2
            exact ⟨e1, e2⟩
          obtain ⟨rfl, rfl⟩ := hc2
          have z3 := HR.out.2.2.1
          go_wp2_with (at_builtin; refine Kd.N_append k34 (w0 := w) (W := (w3.setCell ⟨w1.heap.size, 1, none⟩ (.string (cohB v)))) w.heap.size rfl (.tmp 85) (.tmp 87) 23 34 (.agg #[(.string ⟨#[]⟩), (.string ⟨#[]⟩), (.bool false), (.slice none 0 0)]) 64 rfl Tryz.underlying23 info34 rfl (by decide) (by omega) (.slice A (utfL l1).length c) (utfL l1) (⟨cohB k, cohB v, false, []⟩ : S34) [.string (cohB k), .string (cohB v), .bool false, .slice none 0 0] (fun k => w.heap.size ≤ k) (fun k => w1.heap.size < k) rfl (show Value.slice (some ⟨w3.heap.size, 0, none⟩) 1 1 = _ from by rw [HZW.out]) H3.out.2.2.1 H3.out.2.2.2.1 (fun k hk => Nat.le_trans H3.out.2.2.2.2.1 hk) H3.out.1 H3.out.2.1 H3.out.2.2.2.2.1 H3.out.2.2.2.2.2 ?_; intro v4 w4 hN4 hB4 hg4 hat4; have HN4 := Lib.hid (And.intro hN4 hB4); clear hN4 hB4 hg4 hat4)
          go_region
          all_goals
            go_wp2_with fail
            refine bodyPost_ret (v := .tuple #[v4, .string (r2.extract 1 r2.size), .bool true]) (by simp [results, Tryz.results18, go_sem]) rfl ⟨v4, ?_, ?_, HN4.out.2.drew⟩
            · rw [show r2.extract 1 r2.size = ⟨t2.toArray⟩ from ba_ext (by rw [HR.out.2.2.2.1])]
            · rw [HU.out.2.2.2.2, utfL_append, utfL, HU.out.1, utfL]
              exact Kd.N_drew HN4.out.1
        | cons b t =>
          have hc2 : c2 = 44 ∧ t2 = renL ⟨#[]⟩ (b :: t) ++ 125 :: rest := by
            have e1 := HR.out.1
            rw [HR.out.2.1, renL_comma _ rfl, List.cons_append] at e1
            injection e1 with e1 e2
            exact ⟨e1, e2⟩
          obtain ⟨rfl, ht2⟩ := hc2
          have z3 := HR.out.2.2.1
          have HT := Lib.hid ht2
          clear ht2
          go_wp2_with (at_builtin; refine Kd.N_append k34 (w0 := w) (W := (w3.setCell ⟨w1.heap.size, 1, none⟩ (.string (cohB v)))) w.heap.size rfl (.tmp 85) (.tmp 87) 23 34 (.agg #[(.string ⟨#[]⟩), (.string ⟨#[]⟩), (.bool false), (.slice none 0 0)]) 64 rfl Tryz.underlying23 info34 rfl (by decide) (by omega) (.slice A (utfL l1).length c) (utfL l1) (⟨cohB k, cohB v, false, []⟩ : S34) [.string (cohB k), .string (cohB v), .bool false, .slice none 0 0] (fun k => w.heap.size ≤ k) (fun k => w1.heap.size < k) rfl (show Value.slice (some ⟨w3.heap.size, 0, none⟩) 1 1 = _ from by rw [HZW.out]) H3.out.2.2.1 H3.out.2.2.2.1 (fun k hk => Nat.le_trans H3.out.2.2.2.2.1 hk) H3.out.1 H3.out.2.1 H3.out.2.2.2.2.1 H3.out.2.2.2.2.2 ?_; intro v4 w4 hN4 hB4 hg4 hat4; have HN4 := Lib.hid (And.intro hN4 hB4); clear hN4 hB4 hg4 hat4)
          obtain ⟨A4, c4, rfl⟩ := Kd.N_slice HN4.out.1
          go_roundg ((b :: t).length)
          case measure => have := HU.out.2.2.2.1; omega
          case rel =>
            have hu : utfL (l1 ++ [⟨k, v, false, []⟩]) = utfL l1 ++ [(⟨cohB k, cohB v, false, []⟩ : S34)] := by rw [utfL_append, utfL, HU.out.1, utfL]
            refine ⟨r2.extract 1 r2.size, l1 ++ [⟨k, v, false, []⟩], b :: t, A4, c4, rfl, ?_, ?_, ?_, by simp, HU.out.2.2.1, ?_, rfl, ?_, HN4.out.2⟩
            · rw [hu]
            · rw [HR.out.2.2.2.1, HT.out]
            · rw [HU.out.2.2.2.2, List.append_assoc, List.singleton_append]
            · rw [hu]
              exact HN4.out.1
            · have := HU.out.2.1
              rw [Lib.size_eq, HR.out.2.2.2.1, List.length_append, List.length_singleton]
              omega
theorem obj18 (l : List S34) : ObjCon l := by
  have h : ∀ n l, wtL l ≤ n → ObjCon l := by
    intro n
    induction n using Nat.strongRecOn with
    | _ n ih => exact fun l hl => obj_step n (fun m hm => ih (wtL m) hm m (Nat.le_refl _)) l hl
  exact h _ l (Nat.le_refl _)
end Go.Proofs.YtcllhgajdcemiaaGreatDoor.jb

namespace Go.Proofs.YtcllhgajdcemiaaGreatDoor.jb
open Go.RowKit Go.Proofs.YtcllhgajdcemiaaGreatDoorW.PrintWords Go.Proofs.YtcllhgajdcemiaaGreatDoorW.PrintLast Go.Proofs.YtcllhgajdcemiaaGreatDoorW.PrintMore
open Go.Proofs.YtcllhgajdcemiaaGreatDoor.PFnJSONBack
set_option linter.unusedVariables false
set_option linter.unusedSimpArgs false
set_option maxRecDepth 100000 in
set_option maxHeartbeats 4000000 in
theorem readJSON7 (l : List S34) (w : World) (S : ByteArray) (hfine : fineL l = true) (hlne : l ≠ []) (hS : S.data.toList = [123] ++ renL ⟨#[]⟩ l ++ [125, 10]) (hlen : S.size ≤ 1099511627776) :
    Calls Tryz.prog 7 #[.string S] w fun e w' => ∃ A c, e = .returned (.tuple #[.slice A (utfL l).length c, .bool true]) ∧ (utfL l).length ≤ c ∧ Kd.C k34 w' A (utfL l).length (utfL l) ∧ Below w.heap.size w w' := by
  have HO := Lib.hid (fun w0 => obj18 l w0 S [10] hfine hlne (by rw [hS]; simp) hlen)
  clear hfine hlne hS hlen
  go_enter Tryz.func7, Tryz.ntmps7
  go_wp2_with fail
  refine (HO.out _).mono ?_
  rintro e w3 ⟨mv, rfl, hN3, hB3⟩
  obtain ⟨A3, c3, rfl, hc3, hC3⟩ := Kd.N_reads hN3
  have H3 := Lib.hid (And.intro hc3 (And.intro hC3 hB3))
  clear hN3 hB3 hc3 hC3
  go_wp2_with fail
  exact bodyPost_ret (v := .tuple #[.slice A3 (utfL l).length c3, .bool true]) (by simp [results, Tryz.results7, go_sem]) rfl ⟨A3, c3, rfl, H3.out.1, H3.out.2.1, H3.out.2.2⟩
end Go.Proofs.YtcllhgajdcemiaaGreatDoor.jb
