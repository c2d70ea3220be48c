/-
  spec.Body: what is written of a string is read back (Rd). Condition: the string takes at most 2^46 bytes.
-/
import Derived.Test.YtcllhgajdcemiaaGreatDoorSa
import Derived.Test.YtcllhgajdcemiaaGreatDoorPl
import Derived.Lib.SlBytesConst
import Derived.Lib.SmallJoins
namespace Go.Proofs.YtcllhgajdcemiaaGreatDoor.jb
open Go.RowKit Go.Proofs.YtcllhgajdcemiaaGreatDoorW.PrintWords Go.Proofs.YtcllhgajdcemiaaGreatDoorW.PrintLast Go.Proofs.YtcllhgajdcemiaaGreatDoorW.PrintMore
open Go.Proofs.YtcllhgajdcemiaaGreatDoor.PFnJSONBack
open Go.Proofs.YtcllhgajdcemiaaGreatDoor.wk (Blk lvl)
set_option linter.unusedVariables false
set_option linter.unusedSimpArgs false
theorem at_byte (S : ByteArray) (n : Nat) (c : UInt8) (t : List UInt8) (h : S.data.toList.drop n = c :: t) : n < S.size ∧ ∀ hn : n < S.size, ((S[n]'hn).toNat : Int) = c.toNat := by
  have hlt : n < S.size := by
    have h1 := congrArg List.length h
    rw [List.length_drop, List.length_cons, ← Lib.size_eq] at h1
    omega
  refine ⟨hlt, fun hn => ?_⟩
  have h2 : S.data.toList[n]? = some c := by
    have := congrArg (fun l => l[0]?) h
    simpa using this
  have h3 : S.data.toList[n]? = some S[n] := by
    rw [List.getElem?_eq_getElem (by rw [Array.length_toList]; exact hn)]
    rfl
  rw [h3] at h2
  injection h2 with h2
  rw [h2]
theorem ext_drop (S : ByteArray) (n : Nat) : (S.extract n S.size).data.toList = S.data.toList.drop n := by
  rw [Lib.extract_data]
  exact List.take_of_length_le (by rw [List.length_drop, ← Lib.size_eq]; exact Nat.le_refl _)
theorem hexd48 (d : Nat) (h : d < 10) : hexd d = UInt8.ofNat (48 + d) := by unfold hexd; rw [if_pos h]
/-- spec.hex at four digits. -/
theorem hex36 (w : World) (S : ByteArray) (n n0 n1 n2 n3 v : Nat) (l : List UInt8) (h : S.data.toList.drop n = hexd n0 :: hexd n1 :: hexd n2 :: hexd n3 :: l) (b0 : n0 < 16) (b1 : n1 < 16) (b2 : n2 < 16) (b3 : n3 < 16) (hv : 16 * (16 * (16 * n0 + n1) + n2) + n3 = v) :
    Calls Tryz.prog 36 #[.string (S.extract n S.size)] w fun e w' => e = .returned (.tuple #[.int .i64 (v : Int), .bool true]) ∧ Drawn0 w w' := by
  have he := ext_drop S n
  have hes : 4 ≤ (S.extract n S.size).size := by
    rw [Lib.size_eq, he, h]
    simp
  refine spec_hex.calls 13 _ _ true w ?_
  subst hv
  exact hex_four _ n0 n1 n2 n3 hes (by rw [he, h]; rfl) (by rw [he, h]; rfl) (by rw [he, h]; rfl) (by rw [he, h]; rfl) b0 b1 b2 b3
theorem size25 (w : World) (S : ByteArray) (n k : Nat) (l : List UInt8) (h : S.data.toList.drop n = l) (hl : l ≠ []) (hk : sizeL l = k) : Calls Tryz.prog 25 #[.string (S.extract n S.size)] w fun e w' => e = .returned (.int .i64 (k : Int)) ∧ Drawn0 w w' := by
  have h1 := ext_drop S n
  refine spec_size.calls 8 _ _ w ?_
  have h0 : 0 < (S.extract n S.size).size := by
    rw [Lib.size_eq, h1, h]
    exact List.length_pos_iff.2 hl
  rw [size_is 0 _ h0, h1, h, hk]
set_option maxRecDepth 100000 in
set_option maxHeartbeats 4000000 in
theorem body30 (w : World) (S : ByteArray) (wr out rest : List UInt8) (hS : S.data.toList = wr ++ 34 :: rest) (hRd : Rd wr out) (hlen : S.size ≤ 70368744177664) :
    Calls Tryz.prog 30 #[.string S] w fun e w' => e = .returned (.tuple #[.string ⟨out.toArray⟩, .int .i64 wr.length, .bool true]) ∧ Below w.heap.size w w' := by
  go_enter Tryz.func30, Tryz.ntmps30
  go_wp2_with fail
  go_loopg [2, 3] (wr.length) (fun j v2 v3 wq => ∃ (out1 wr2 out2 : List UInt8) (n : Nat), v2 = .string ⟨out1.toArray⟩ ∧ v3 = .int .i64 n ∧ Aside (S.data.toList.drop n = wr2 ++ 34 :: rest ∧ n + wr2.length = wr.length ∧ Rd wr2 out2 ∧ out1 ++ out2 = out ∧ j = wr2.length ∧ Below w.heap.size w wq ∧ out1.length ≤ n))
  case atStart => exact ⟨[], wr, out, 0, rfl, rfl, by simpa using hS, by simp, hRd, rfl, rfl, Below.refl _ _, Nat.zero_le _⟩
  case round =>
    obtain ⟨out1, wr2, out2, n, rfl, rfl, HI⟩ := hrel
    obtain ⟨h1, h2, h3, h4, h5, h6, h7⟩ := HI.out
    clear HI
    have HH := Lib.hid (And.intro hS (And.intro hlen hRd))
    have hnl : n ≤ 70368744177664 := by
      have := congrArg List.length hS
      rw [← Lib.size_eq, List.length_append] at this
      omega
    cases h3 with
    | nil =>
      have hb := at_byte S n 34 rest (by simpa using h1)
      have hlt := hb.1
      have hlt1 : decide ((n : Int) < (S.size : Int)) = true := decide_eq_true (by omega)
      have hix := hb.2
      have HZ := Lib.hid (And.intro h2 (And.intro h4 h6))
      clear hb h1 h2 h4 h5 h6 h7 hS hRd
      go_wp2_with fail
      refine bodyPost_ret (v := .tuple #[.string ⟨out1.toArray⟩, .int .i64 n, .bool true]) (by simp [results, Tryz.results30, go_sem]) rfl ⟨?_, HZ.out.2.2⟩
      have e1 := HZ.out.1
      have e2 := HZ.out.2.1
      rw [List.length_nil, Nat.add_zero] at e1
      rw [List.append_nil] at e2
      rw [e1, e2]
    | plain c x t o g1 g2 g3 gs g =>
      have e0 : c :: (x ++ t) ++ 34 :: rest = c :: (x ++ (t ++ 34 :: rest)) := by simp
      rw [e0] at h1
      have hb := at_byte S n c _ h1
      have hlt := hb.1
      have hix := hb.2
      have hlt1 : decide ((n : Int) < (S.size : Int)) = true := decide_eq_true (by omega)
      have c1 : ((c.toNat : Int) != 34) = true := bne_iff_ne.2 (fun e => g2 (UInt8.toNat_inj.1 (by show c.toNat = 34; omega)))
      have c2 : decide ((c.toNat : Int) < 32) = false := decide_eq_false (by omega)
      have c3 : ((c.toNat : Int) != 92) = true := bne_iff_ne.2 (fun e => g3 (UInt8.toNat_inj.1 (by show c.toNat = 92; omega)))
      have hsz : n + (x.length + 1) + (t.length + 1 + rest.length) = S.size := by
        have := congrArg List.length h1
        rw [List.length_drop, ← Lib.size_eq] at this
        simp only [List.length_cons, List.length_append] at this
        omega
      have k25 := fun w0 => size25 w0 S n (x.length + 1) _ h1 (by simp) (gs _)
      have H25 := Lib.hid k25
      have c4 : (((x.length + 1 : Nat) : Int) == 0) = false := beq_eq_false_iff_ne.2 (by omega)
      have HZ := Lib.hid (And.intro h1 (And.intro h2 (And.intro h4 (And.intro hsz (And.intro g (And.intro h5 (And.intro h6 h7)))))))
      clear hb h1 h2 h4 h5 h6 h7 hS hRd k25 hsz e0
      go_wp2_with fail
      refine (H25.out _).mono ?_
      rintro e w1 ⟨rfl, hd1⟩
      obtain ⟨m1, rfl⟩ := hd1
      go_wp2_with fail
      refine (H25.out _).mono ?_
      rintro e w2 ⟨rfl, hd2⟩
      obtain ⟨m2, rfl⟩ := hd2
      have hout : out1.length ≤ 6 * 70368744177664 := by have := HZ.out.2.2.2.2.2.2.2; omega
      have hsz := HZ.out.2.2.2.1
      have w1e : wrap64 ((n : Int) + ((x.length + 1 : Nat) : Int)) = ((n + (x.length + 1) : Nat) : Int) := by
        rw [IntWalk.wrap64_in _ ⟨by omega, by omega⟩]
        omega
      have b1 : n ≤ n + (x.length + 1) := by omega
      have b2 : n + (x.length + 1) ≤ S.size := by omega
      go_wp2_with fail
      go_roundg (t.length)
      case measure => have := HZ.out.2.2.2.2.2.1; simp at this; omega
      case rel =>
        have hd1 := HZ.out.1
        have e1 := HZ.out.2.1
        have e2 := HZ.out.2.2.1
        refine ⟨out1 ++ (c :: x), t, o, n + (x.length + 1), ?_, by simp, ?_, ?_, HZ.out.2.2.2.2.1, ?_, rfl, ?_, ?_⟩
        · congr 1
          refine ba_ext ?_
          rw [ba_append, Lib.extract_data, hd1, show n + (x.length + 1) - n = x.length + 1 by omega]
          simp
        · rw [← List.drop_drop, hd1]
          simp
        · simp only [List.length_cons, List.length_append] at e1
          omega
        · rw [← e2]
          simp
        · exact HZ.out.2.2.2.2.2.2.1.trans ((pw_below_drewN (Below.refl _ _) _).mono HZ.out.2.2.2.2.2.2.1.size)
        · have := HZ.out.2.2.2.2.2.2.2
          simp only [List.length_cons, List.length_append]
          omega
    | esc c d t o hc g =>
      have hb := at_byte S n 92 _ h1
      have hlt := hb.1
      have hix := hb.2
      have hb2 := at_byte S (n + 1) c (t ++ 34 :: rest) (by rw [← List.drop_drop, h1]; simp)
      have hlt2 := hb2.1
      have hix2 := hb2.2
      have hlt1 : decide ((n : Int) < (S.size : Int)) = true := decide_eq_true (by omega)
      have k25 := fun w0 => size25 w0 S n 1 _ h1 (by simp) (sizeL_ascii 92 _ (by decide))
      have H25 := Lib.hid k25
      have hne1 : (((n + 1 : Nat) : Int) == (S.size : Int)) = false := beq_eq_false_iff_ne.2 (by omega)
      have HZ := Lib.hid (And.intro h1 (And.intro h2 (And.intro h4 (And.intro g (And.intro h5 (And.intro h6 h7))))))
      have HC := Lib.hid hc
      clear hb hb2 h1 h2 h4 h5 h6 h7 hS hRd k25 hc
      have w1e : wrap64 ((n : Int) + 1) = ((n + 1 : Nat) : Int) := by
        rw [IntWalk.wrap64_in _ ⟨by omega, by omega⟩]
        omega
      have w2e : wrap64 (((n + 1 : Nat) : Int) + 1) = ((n + 2 : Nat) : Int) := by
        rw [IntWalk.wrap64_in _ ⟨by omega, by omega⟩]
        omega
      have c5 : ((c.toNat : Int) != 117) = true := by
        rcases HC.out with ⟨rfl, _⟩ | ⟨rfl, _⟩ | ⟨rfl, _⟩ | ⟨rfl, _⟩ | ⟨rfl, _⟩ <;> decide
      go_wp2_with fail
      refine (H25.out _).mono ?_
      rintro e w1 ⟨rfl, hd1⟩
      obtain ⟨m1, rfl⟩ := hd1
      have hcv := Go.Joins.run_convert_bytes_const_at (P := Tryz.prog) (wr.drewN m1) 60 5 #[.int .u8 34, .int .u8 92, .int .u8 47, .int .u8 98, .int .u8 102, .int .u8 110, .int .u8 114, .int .u8 116] 8 8 wr.heap.size (by simp) Tryz.underlying60 Tryz.underlying5
      have z0 := Go.Joins.cell_alloc_mark_at (wr.drewN m1) #[.int .u8 34, .int .u8 92, .int .u8 47, .int .u8 98, .int .u8 102, .int .u8 110, .int .u8 114, .int .u8 116] 5 (8, 9) wr.heap.size 0 (by simp)
      have z1 := Go.Joins.cell_alloc_mark_at (wr.drewN m1) #[.int .u8 34, .int .u8 92, .int .u8 47, .int .u8 98, .int .u8 102, .int .u8 110, .int .u8 114, .int .u8 116] 5 (8, 9) wr.heap.size 1 (by simp)
      have z2 := Go.Joins.cell_alloc_mark_at (wr.drewN m1) #[.int .u8 34, .int .u8 92, .int .u8 47, .int .u8 98, .int .u8 102, .int .u8 110, .int .u8 114, .int .u8 116] 5 (8, 9) wr.heap.size 2 (by simp)
      have z3 := Go.Joins.cell_alloc_mark_at (wr.drewN m1) #[.int .u8 34, .int .u8 92, .int .u8 47, .int .u8 98, .int .u8 102, .int .u8 110, .int .u8 114, .int .u8 116] 5 (8, 9) wr.heap.size 3 (by simp)
      have z4 := Go.Joins.cell_alloc_mark_at (wr.drewN m1) #[.int .u8 34, .int .u8 92, .int .u8 47, .int .u8 98, .int .u8 102, .int .u8 110, .int .u8 114, .int .u8 116] 5 (8, 9) wr.heap.size 4 (by simp)
      have z5 := Go.Joins.cell_alloc_mark_at (wr.drewN m1) #[.int .u8 34, .int .u8 92, .int .u8 47, .int .u8 98, .int .u8 102, .int .u8 110, .int .u8 114, .int .u8 116] 5 (8, 9) wr.heap.size 5 (by simp)
      have z6 := Go.Joins.cell_alloc_mark_at (wr.drewN m1) #[.int .u8 34, .int .u8 92, .int .u8 47, .int .u8 98, .int .u8 102, .int .u8 110, .int .u8 114, .int .u8 116] 5 (8, 9) wr.heap.size 6 (by simp)
      have z7 := Go.Joins.cell_alloc_mark_at (wr.drewN m1) #[.int .u8 34, .int .u8 92, .int .u8 47, .int .u8 98, .int .u8 102, .int .u8 110, .int .u8 114, .int .u8 116] 5 (8, 9) wr.heap.size 7 (by simp)
      have hout : out1.length ≤ 70368744177664 := by have := HZ.out.2.2.2.2.2.2; omega
      rcases HC.out with ⟨rfl, hdv⟩ | ⟨rfl, hdv⟩ | ⟨rfl, hdv⟩ | ⟨rfl, hdv⟩ | ⟨rfl, hdv⟩
      all_goals have HD := Lib.hid hdv
      all_goals clear hdv
      all_goals
        go_wp2_with fail
        clear H25 hix hix2 hcv
        refine wp_loop_rounds 9 ?_
        iterate 9
          rw [rounds_succ]
          go_wp2_with fail
        go_roundg (t.length)
        case measure => have := HZ.out.2.2.2.2.1; simp at this; omega
        case rel =>
          have hd1 := HZ.out.1
          have e1 := HZ.out.2.1
          have e2 := HZ.out.2.2.1
          refine ⟨out1 ++ [d], t, o, n + 2, ?_, ?_, ?_, ?_, HZ.out.2.2.2.1, ?_, rfl, ?_, ?_⟩
          · exact congrArg Value.string (ba_ext (by rw [ba_append, HD.out]; rfl))
          · first
            | (simp; done)
            | (congr 1; done)
            | (congr 1; omega)
          · rw [← List.drop_drop, hd1]
            try simp
          · simp only [List.length_cons] at e1
            omega
          · rw [← e2]
            try simp
          · exact HZ.out.2.2.2.2.2.1.trans (((pw_below_drewN (Below.refl _ _) _).alloc (by simp) _).mono HZ.out.2.2.2.2.2.1.size)
          · have := HZ.out.2.2.2.2.2.2
            simp only [List.length_append, List.length_cons, List.length_nil]
            omega
    | ctl c t o hc g =>
      have hb := at_byte S n 92 _ h1
      have hlt := hb.1
      have hix := hb.2
      have hb2 := at_byte S (n + 1) 117 ([48, 48, hexd (c.toNat / 16), hexd (c.toNat % 16)] ++ (t ++ 34 :: rest)) (by rw [← List.drop_drop, h1]; simp)
      have hlt2 := hb2.1
      have hix2 := hb2.2
      have hD : S.data.toList.drop (n + 2) = [48, 48, hexd (c.toNat / 16), hexd (c.toNat % 16)] ++ (t ++ 34 :: rest) := by rw [← List.drop_drop, h1]; simp
      have hsz : n + 6 + (t.length + 1 + rest.length) = S.size := by
        have := congrArg List.length hD
        rw [List.length_drop, ← Lib.size_eq] at this
        simp only [List.length_cons, List.length_append, List.length_nil] at this
        omega
      have hlt1 : decide ((n : Int) < (S.size : Int)) = true := decide_eq_true (by omega)
      have H25 := Lib.hid (fun w0 => size25 w0 S n 1 _ h1 (by simp) (sizeL_ascii 92 _ (by decide)))
      have H36 := Lib.hid (fun w0 => hex36 w0 S (n + 2) 0 0 (c.toNat / 16) (c.toNat % 16) c.toNat (t ++ 34 :: rest) (by rw [hD]; rfl) (by omega) (by omega) (by omega) (by omega) (by omega))
      have hne1 : (((n + 1 : Nat) : Int) == (S.size : Int)) = false := beq_eq_false_iff_ne.2 (by omega)
      have HZ := Lib.hid (And.intro h1 (And.intro h2 (And.intro h4 (And.intro g (And.intro h5 (And.intro h6 h7))))))
      clear hb hb2 h1 h2 h4 h5 h6 h7 hS hRd hD
      have w1e : wrap64 ((n : Int) + 1) = ((n + 1 : Nat) : Int) := by
        rw [IntWalk.wrap64_in _ ⟨by omega, by omega⟩]
        omega
      have w2e : wrap64 (((n + 1 : Nat) : Int) + 1) = ((n + 2 : Nat) : Int) := by
        rw [IntWalk.wrap64_in _ ⟨by omega, by omega⟩]
        omega
      have b2 : n + 2 ≤ S.size := by omega
      go_wp2_with fail
      refine (H25.out _).mono ?_
      rintro e w1 ⟨rfl, hd1⟩
      obtain ⟨m1, rfl⟩ := hd1
      go_wp2_with fail
      refine (H36.out _).mono ?_
      rintro e w2 ⟨rfl, hd2⟩
      obtain ⟨m2, rfl⟩ := hd2
      have w3e : wrap64 (((n + 2 : Nat) : Int) + 4) = ((n + 6 : Nat) : Int) := by
        rw [IntWalk.wrap64_in _ ⟨by omega, by omega⟩]
        omega
      have v1 : decide (55296 ≤ (c.toNat : Int)) = false := decide_eq_false (by omega)
      have HCO := Lib.hid (fun w0 => coded_small w0 c hc)
      have hout : out1.length ≤ 70368744177664 := by have := HZ.out.2.2.2.2.2.2; omega
      go_wp2_with fail
      refine (HCO.out _).mono ?_
      rintro e w3 ⟨rfl, hb3⟩
      have HB3 := Lib.hid hb3
      clear hb3
      go_wp2_with fail
      go_roundg (t.length)
      case measure => have := HZ.out.2.2.2.2.1; simp at this; omega
      case rel =>
        have hd1 := HZ.out.1
        have e1 := HZ.out.2.1
        have e2 := HZ.out.2.2.1
        refine ⟨out1 ++ [c], t, o, n + 6, ?_, ?_, ?_, ?_, HZ.out.2.2.2.1, ?_, rfl, ?_, ?_⟩
        · exact congrArg Value.string (ba_ext (by rw [ba_append]; try simp))
        · first
          | (simp; done)
          | (congr 1; done)
          | (congr 1; omega)
        · rw [← List.drop_drop, hd1]
          try simp
        · simp only [List.length_cons] at e1
          omega
        · rw [← e2]
          try simp
        · exact HZ.out.2.2.2.2.2.1.trans (((pw_below_drewN (Below.refl _ _) _).trans (HB3.out.mono (by simp))).mono HZ.out.2.2.2.2.2.1.size)
        · have := HZ.out.2.2.2.2.2.2
          simp only [List.length_append, List.length_cons, List.length_nil]
          omega
    | sep d t o hd g =>
      rcases hd with rfl | rfl
      · have hb := at_byte S n 92 _ h1
        have hlt := hb.1
        have hix := hb.2
        have hb2 := at_byte S (n + 1) 117 ([50, 48, 50, 48 + 8] ++ (t ++ 34 :: rest)) (by rw [← List.drop_drop, h1]; simp)
        have hlt2 := hb2.1
        have hix2 := hb2.2
        have hD : S.data.toList.drop (n + 2) = [50, 48, 50, 48 + 8] ++ (t ++ 34 :: rest) := by rw [← List.drop_drop, h1]; simp
        have hsz : n + 6 + (t.length + 1 + rest.length) = S.size := by
          have := congrArg List.length hD
          rw [List.length_drop, ← Lib.size_eq] at this
          simp only [List.length_cons, List.length_append, List.length_nil] at this
          omega
        have hlt1 : decide ((n : Int) < (S.size : Int)) = true := decide_eq_true (by omega)
        have H25 := Lib.hid (fun w0 => size25 w0 S n 1 _ h1 (by simp) (sizeL_ascii 92 _ (by decide)))
        have H36 := Lib.hid (fun w0 => hex36 w0 S (n + 2) 2 0 2 8 8232 (t ++ 34 :: rest) (by rw [hD]; rfl) (by omega) (by omega) (by omega) (by omega) (by omega))
        have hne1 : (((n + 1 : Nat) : Int) == (S.size : Int)) = false := beq_eq_false_iff_ne.2 (by omega)
        have HZ := Lib.hid (And.intro h1 (And.intro h2 (And.intro h4 (And.intro g (And.intro h5 (And.intro h6 h7))))))
        clear hb hb2 h1 h2 h4 h5 h6 h7 hS hRd hD
        have w1e : wrap64 ((n : Int) + 1) = ((n + 1 : Nat) : Int) := by
          rw [IntWalk.wrap64_in _ ⟨by omega, by omega⟩]
          omega
        have w2e : wrap64 (((n + 1 : Nat) : Int) + 1) = ((n + 2 : Nat) : Int) := by
          rw [IntWalk.wrap64_in _ ⟨by omega, by omega⟩]
          omega
        have b2 : n + 2 ≤ S.size := by omega
        go_wp2_with fail
        refine (H25.out _).mono ?_
        rintro e w1 ⟨rfl, hd1⟩
        obtain ⟨m1, rfl⟩ := hd1
        go_wp2_with fail
        refine (H36.out _).mono ?_
        rintro e w2 ⟨rfl, hd2⟩
        obtain ⟨m2, rfl⟩ := hd2
        have w3e : wrap64 (((n + 2 : Nat) : Int) + 4) = ((n + 6 : Nat) : Int) := by
          rw [IntWalk.wrap64_in _ ⟨by omega, by omega⟩]
          omega
        have HCO := Lib.hid (fun w0 => coded_8232 w0)
        have hout : out1.length ≤ 70368744177664 := by have := HZ.out.2.2.2.2.2.2; omega
        go_wp2_with fail
        refine (HCO.out _).mono ?_
        rintro e w3 ⟨rfl, hb3⟩
        have HB3 := Lib.hid hb3
        clear hb3
        go_wp2_with fail
        go_roundg (t.length)
        case measure => have := HZ.out.2.2.2.2.1; simp at this; omega
        case rel =>
          have hd1 := HZ.out.1
          have e1 := HZ.out.2.1
          have e2 := HZ.out.2.2.1
          refine ⟨out1 ++ [226, 128, 168], t, o, n + 6, ?_, ?_, ?_, ?_, HZ.out.2.2.2.1, ?_, rfl, ?_, ?_⟩
          · exact congrArg Value.string (ba_ext (by rw [ba_append]; try simp))
          · first
            | (simp; done)
            | (congr 1; done)
            | (congr 1; omega)
          · rw [← List.drop_drop, hd1]
            try simp
          · simp only [List.length_cons] at e1
            omega
          · rw [← e2]
            try simp
          · exact HZ.out.2.2.2.2.2.1.trans (((pw_below_drewN (Below.refl _ _) _).trans (HB3.out.mono (by simp))).mono HZ.out.2.2.2.2.2.1.size)
          · have := HZ.out.2.2.2.2.2.2
            simp only [List.length_append, List.length_cons, List.length_nil]
            omega
      · have hb := at_byte S n 92 _ h1
        have hlt := hb.1
        have hix := hb.2
        have hb2 := at_byte S (n + 1) 117 ([50, 48, 50, 48 + 9] ++ (t ++ 34 :: rest)) (by rw [← List.drop_drop, h1]; simp)
        have hlt2 := hb2.1
        have hix2 := hb2.2
        have hD : S.data.toList.drop (n + 2) = [50, 48, 50, 48 + 9] ++ (t ++ 34 :: rest) := by rw [← List.drop_drop, h1]; simp
        have hsz : n + 6 + (t.length + 1 + rest.length) = S.size := by
          have := congrArg List.length hD
          rw [List.length_drop, ← Lib.size_eq] at this
          simp only [List.length_cons, List.length_append, List.length_nil] at this
          omega
        have hlt1 : decide ((n : Int) < (S.size : Int)) = true := decide_eq_true (by omega)
        have H25 := Lib.hid (fun w0 => size25 w0 S n 1 _ h1 (by simp) (sizeL_ascii 92 _ (by decide)))
        have H36 := Lib.hid (fun w0 => hex36 w0 S (n + 2) 2 0 2 9 8233 (t ++ 34 :: rest) (by rw [hD]; rfl) (by omega) (by omega) (by omega) (by omega) (by omega))
        have hne1 : (((n + 1 : Nat) : Int) == (S.size : Int)) = false := beq_eq_false_iff_ne.2 (by omega)
        have HZ := Lib.hid (And.intro h1 (And.intro h2 (And.intro h4 (And.intro g (And.intro h5 (And.intro h6 h7))))))
        clear hb hb2 h1 h2 h4 h5 h6 h7 hS hRd hD
        have w1e : wrap64 ((n : Int) + 1) = ((n + 1 : Nat) : Int) := by
          rw [IntWalk.wrap64_in _ ⟨by omega, by omega⟩]
          omega
        have w2e : wrap64 (((n + 1 : Nat) : Int) + 1) = ((n + 2 : Nat) : Int) := by
          rw [IntWalk.wrap64_in _ ⟨by omega, by omega⟩]
          omega
        have b2 : n + 2 ≤ S.size := by omega
        go_wp2_with fail
        refine (H25.out _).mono ?_
        rintro e w1 ⟨rfl, hd1⟩
        obtain ⟨m1, rfl⟩ := hd1
        go_wp2_with fail
        refine (H36.out _).mono ?_
        rintro e w2 ⟨rfl, hd2⟩
        obtain ⟨m2, rfl⟩ := hd2
        have w3e : wrap64 (((n + 2 : Nat) : Int) + 4) = ((n + 6 : Nat) : Int) := by
          rw [IntWalk.wrap64_in _ ⟨by omega, by omega⟩]
          omega
        have HCO := Lib.hid (fun w0 => coded_8233 w0)
        have hout : out1.length ≤ 70368744177664 := by have := HZ.out.2.2.2.2.2.2; omega
        go_wp2_with fail
        refine (HCO.out _).mono ?_
        rintro e w3 ⟨rfl, hb3⟩
        have HB3 := Lib.hid hb3
        clear hb3
        go_wp2_with fail
        go_roundg (t.length)
        case measure => have := HZ.out.2.2.2.2.1; simp at this; omega
        case rel =>
          have hd1 := HZ.out.1
          have e1 := HZ.out.2.1
          have e2 := HZ.out.2.2.1
          refine ⟨out1 ++ [226, 128, 169], t, o, n + 6, ?_, ?_, ?_, ?_, HZ.out.2.2.2.1, ?_, rfl, ?_, ?_⟩
          · exact congrArg Value.string (ba_ext (by rw [ba_append]; try simp))
          · first
            | (simp; done)
            | (congr 1; done)
            | (congr 1; omega)
          · rw [← List.drop_drop, hd1]
            try simp
          · simp only [List.length_cons] at e1
            omega
          · rw [← e2]
            try simp
          · exact HZ.out.2.2.2.2.2.1.trans (((pw_below_drewN (Below.refl _ _) _).trans (HB3.out.mono (by simp))).mono HZ.out.2.2.2.2.2.1.size)
          · have := HZ.out.2.2.2.2.2.2
            simp only [List.length_append, List.length_cons, List.length_nil]
            omega
end Go.Proofs.YtcllhgajdcemiaaGreatDoor.jb
