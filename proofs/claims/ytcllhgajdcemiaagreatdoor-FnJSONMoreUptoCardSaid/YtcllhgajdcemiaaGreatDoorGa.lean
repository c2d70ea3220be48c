/-
  Gattr: appendAttr and appendAttrs of the JSON handler at every tree of attributes in which no inner group is empty: they write outA, outL and answer true.
  Glist: appendAttrs of the JSON handler: the loop, and the induction on the tree.
  Gopen: openGroups of the JSON handler: the groups that are not open yet.
  Gclone: slices.Clip, clone, withGroup of the JSON handler.
-/
import Derived.Test.YtcllhgajdcemiaaGreatDoorGs
import Derived.Deep.LoopGhost
namespace Go.Proofs.YtcllhgajdcemiaaGreatDoor.jb
open Go.RowKit Go.Proofs.YtcllhgajdcemiaaGreatDoorW.PrintWords
set_option linter.unusedVariables false
set_option linter.unusedSimpArgs false

mutual
theorem outA_sep : ∀ (a : S102) (sep : ByteArray), sep.size ≤ 1 → (outA sep a).2.size ≤ 1
  | ⟨k, n, s, l⟩, sep, h => by
    unfold outA
    split
    · split
      · exact h
      · split
        · exact outL_sep l sep h
        · show ((⟨#[44]⟩ : ByteArray)).size ≤ 1
          decide
    · show ((⟨#[44]⟩ : ByteArray)).size ≤ 1
      decide
theorem outL_sep : ∀ (l : List S102) (sep : ByteArray), sep.size ≤ 1 → (outL sep l).2.size ≤ 1
  | [], sep, h => by unfold outL; exact h
  | a :: l, sep, h => by
    unfold outL
    exact outL_sep l _ (outA_sep a sep h)
end
mutual
theorem outA_len : ∀ (a : S102) (sep : ByteArray), sep.size ≤ 1 → (outA sep a).1.length ≤ bulkA a
  | ⟨k, n, s, l⟩, sep, h => by
    have h0 := outL_len l sep h
    have h1 := outL_len l ⟨#[]⟩ (by decide)
    have h2 := keyG_length sep k h
    have h3 := quo_length s
    unfold outA bulkA
    split
    · split
      · simp
      · split
        · show (outL sep l).1.length ≤ _
          omega
        · simp only [List.length_append, List.length_singleton]
          omega
    · simp only [List.length_append]
      omega
theorem outL_len : ∀ (l : List S102) (sep : ByteArray), sep.size ≤ 1 → (outL sep l).1.length ≤ bulkL l
  | [], sep, h => by simp [outL]
  | a :: l, sep, h => by
    have h0 := outA_len a sep h
    have h1 := outL_len l _ (outA_sep a sep h)
    unfold outL bulkL
    rw [List.length_append]
    omega
end

section
variable {w w' w1 : World} {B bh bs bp : Nat} {m : Md} {gs v : Value} {k : Int} {fb : Bool} {sep sep' : ByteArray} {bl bl' : List UInt8}

def AttrGives (w : World) (B : Nat) (m : Md) (bh bs bp : Nat) (gs : Value) (k : Int) (fb : Bool) (sep : ByteArray) (bl : List UInt8) (e : Ending) (w' : World) : Prop := e = .returned (.bool true) ∧ Gst w' B m bh bs bp gs k fb sep bl ∧ Kp B w w'

set_option maxRecDepth 100000 in
set_option maxHeartbeats 2000000 in
theorem attr_str (h : Gst w B m bh bs bp gs k fb sep bl) (hsep : sep.size ≤ 1) (key s : ByteArray) (A : Option Addr) (n c : Nat) (hT : Tabs w) (hB6 : 6 ≤ B) (hlen : bl.length + 6 * key.size + 6 * s.size + 10 ≤ 70368744177664) :
    Calls Tryz.prog 62 #[.pointer (some ⟨bs, 0, none⟩), .agg #[.string key, .int .i64 1, .string s, .slice A n c]] w (AttrGives w B m bh bs bp gs k fb ⟨#[44]⟩ (bl ++ (keyG sep key ++ quo s))) := by
  have hba : Below w.heap.size w (w.alloc (.cells #[.string key, .int .i64 1, .string s, .slice A n c] 102)) := (Below.refl _ _).alloc (Nat.le_refl _) _
  have HN := Lib.hid (wk.Blk.new w 102 #[.string key, .int .i64 1, .string s, .slice A n c])
  have k75 := Lib.hid (resolve75 (w.alloc (.cells #[.string key, .int .i64 1, .string s, .slice A n c] 102)) 1 s A n c)
  have HB := Lib.hid hba
  have HH := Lib.hid h
  have HT := Lib.hid hT
  have HL := Lib.hid hlen
  have HS := Lib.hid hsep
  clear hba h hT hlen hsep
  go_enter Tryz.func62, Tryz.ntmps62
  go_wp2_with fail
  refine k75.out.mono ?_
  rintro e w1 ⟨rfl, h1⟩
  have hN1 := HN.out.below h1 HN.out.lt
  have hb1 := HB.out.trans (h1.mono HB.out.size)
  have c0 := hN1.cell 0
  have c1 := hN1.cell 1
  have c2 := hN1.cell 2
  have c3 := hN1.cell 3
  have f1 := hN1.frozen 1
  have f2 := hN1.frozen 2
  have f3 := hN1.frozen 3
  have hN2 : wk.Blk (((w1.setCell ⟨w.heap.size, 1, none⟩ (.int .i64 1)).setCell ⟨w.heap.size, 2, none⟩ (.string s)).setCell ⟨w.heap.size, 3, none⟩ (.slice A n c)) w.heap.size 102 #[.string key, .int .i64 1, .string s, .slice A n c] := ((hN1.set_ 1 (.int .i64 1)).set_ 2 (.string s)).set_ 3 (.slice A n c)
  have hb2 : Below w.heap.size w (((w1.setCell ⟨w.heap.size, 1, none⟩ (.int .i64 1)).setCell ⟨w.heap.size, 2, none⟩ (.string s)).setCell ⟨w.heap.size, 3, none⟩ (.slice A n c)) := ((hb1.setCell (p := ⟨w.heap.size, 1, none⟩) (Nat.le_refl _) _).setCell (p := ⟨w.heap.size, 2, none⟩) (Nat.le_refl _) _).setCell (p := ⟨w.heap.size, 3, none⟩) (Nat.le_refl _) _
  have HN2 := Lib.hid hN2
  have HB2 := Lib.hid hb2
  clear h1 k75 hN1 hb1 hN2 hb2
  go_wp2_with fail
  clear c0 c1 c2 c3 f1 f2 f3
  generalize (((w1.setCell ⟨w.heap.size, 1, none⟩ (.int .i64 1)).setCell ⟨w.heap.size, 2, none⟩ (.string s)).setCell ⟨w.heap.size, 3, none⟩ (.slice A n c)) = w2 at HN2 HB2 ⊢
  refine (isEmpty76 w2 key 1 (.string s) (.slice A n c) (by decide)).mono ?_
  rintro e w3 ⟨rfl, h3⟩
  have hN3 := HN2.out.below h3 HN2.out.lt
  have HN3 := Lib.hid hN3
  have HB3 := Lib.hid (HB2.out.trans (h3.mono HB2.out.size))
  have c0 := hN3.cell 0
  have c1 := hN3.cell 1
  have c2 := hN3.cell 2
  have c3 := hN3.cell 3
  clear hN3 h3 HN2 HB2
  go_wp2_with fail
  clear c0 c1 c2 c3
  refine (kind63 w3 1 (.string s) (.slice A n c)).mono ?_
  rintro e w4 ⟨rfl, h4⟩
  have hN4 := HN3.out.below h4 HN3.out.lt
  have HN4 := Lib.hid hN4
  have HB4 := Lib.hid (HB3.out.trans (h4.mono HB3.out.size))
  have c0 := hN4.cell 0
  have c1 := hN4.cell 1
  have c2 := hN4.cell 2
  have c3 := hN4.cell 3
  clear hN4 h4 HN3 HB3
  go_wp2_with fail
  clear c0 c1 c2 c3
  have hG4 := HH.out.below HB4.out
  refine (appendKey_g hG4 HS.out key (HT.out.below (HB4.out.mono HH.out.hz) hB6) hB6 (by have := HL.out; omega)).mono ?_
  rintro e w5 ⟨rfl, hG5, hk5⟩
  have hN5 := hk5.k HN4.out (by decide)
  have HK5 := Lib.hid ((Kp.of_below HB4.out HH.out.hz).trans hk5)
  have HG5 := Lib.hid hG5
  have c1 := hN5.cell 1
  have c2 := hN5.cell 2
  have c3 := hN5.cell 3
  clear hN5 hk5 hG4 hG5 HN4 HB4
  go_wp2_with fail
  clear c1 c2 c3
  refine (appendValue_g HG5.out (.int .i64 1) (.slice A n c) s (HT.out.below HK5.out.b hB6) hB6 (by have := HL.out; have := keyG_length sep key HS.out; rw [List.length_append]; omega)).mono ?_
  rintro e w6 ⟨rfl, hG6, hk6⟩
  have HG6 := Lib.hid (And.intro hG6 (HK5.out.trans hk6))
  clear hG6 hk6
  go_wp2_with fail
  go_ret
  refine ⟨rfl, ?_, HG6.out.2⟩
  rw [← List.append_assoc]
  exact HG6.out.1

set_option maxRecDepth 100000 in
set_option maxHeartbeats 2000000 in
theorem attr_none (h : Gst w B m bh bs bp gs k fb sep bl) (key s : ByteArray) (A : Option Addr) (c : Nat) :
    Calls Tryz.prog 62 #[.pointer (some ⟨bs, 0, none⟩), .agg #[.string key, .int .i64 2, .string s, .slice A 0 c]] w (AttrGives w B m bh bs bp gs k fb sep bl) := by
  have hba : Below w.heap.size w (w.alloc (.cells #[.string key, .int .i64 2, .string s, .slice A 0 c] 102)) := (Below.refl _ _).alloc (Nat.le_refl _) _
  have HN := Lib.hid (wk.Blk.new w 102 #[.string key, .int .i64 2, .string s, .slice A 0 c])
  have k75 := Lib.hid (resolve75 (w.alloc (.cells #[.string key, .int .i64 2, .string s, .slice A 0 c] 102)) 2 s A 0 c)
  have HB := Lib.hid hba
  have HH := Lib.hid h
  clear hba h
  go_enter Tryz.func62, Tryz.ntmps62
  go_wp2_with fail
  refine k75.out.mono ?_
  rintro e w1 ⟨rfl, h1⟩
  have hN1 := HN.out.below h1 HN.out.lt
  have hb1 := HB.out.trans (h1.mono HB.out.size)
  have c0 := hN1.cell 0
  have c1 := hN1.cell 1
  have c2 := hN1.cell 2
  have c3 := hN1.cell 3
  have f1 := hN1.frozen 1
  have f2 := hN1.frozen 2
  have f3 := hN1.frozen 3
  have hN2 : wk.Blk (((w1.setCell ⟨w.heap.size, 1, none⟩ (.int .i64 2)).setCell ⟨w.heap.size, 2, none⟩ (.string s)).setCell ⟨w.heap.size, 3, none⟩ (.slice A 0 c)) w.heap.size 102 #[.string key, .int .i64 2, .string s, .slice A 0 c] := ((hN1.set_ 1 (.int .i64 2)).set_ 2 (.string s)).set_ 3 (.slice A 0 c)
  have hb2 : Below w.heap.size w (((w1.setCell ⟨w.heap.size, 1, none⟩ (.int .i64 2)).setCell ⟨w.heap.size, 2, none⟩ (.string s)).setCell ⟨w.heap.size, 3, none⟩ (.slice A 0 c)) := ((hb1.setCell (p := ⟨w.heap.size, 1, none⟩) (Nat.le_refl _) _).setCell (p := ⟨w.heap.size, 2, none⟩) (Nat.le_refl _) _).setCell (p := ⟨w.heap.size, 3, none⟩) (Nat.le_refl _) _
  have HN2 := Lib.hid hN2
  have HB2 := Lib.hid hb2
  clear h1 k75 hN1 hb1 hN2 hb2
  go_wp2_with fail
  clear c0 c1 c2 c3 f1 f2 f3
  generalize (((w1.setCell ⟨w.heap.size, 1, none⟩ (.int .i64 2)).setCell ⟨w.heap.size, 2, none⟩ (.string s)).setCell ⟨w.heap.size, 3, none⟩ (.slice A 0 c)) = w2 at HN2 HB2 ⊢
  refine (isEmpty76 w2 key 2 (.string s) (.slice A 0 c) (by decide)).mono ?_
  rintro e w3 ⟨rfl, h3⟩
  have hN3 := HN2.out.below h3 HN2.out.lt
  have HN3 := Lib.hid hN3
  have HB3 := Lib.hid (HB2.out.trans (h3.mono HB2.out.size))
  have c0 := hN3.cell 0
  have c1 := hN3.cell 1
  have c2 := hN3.cell 2
  have c3 := hN3.cell 3
  clear hN3 h3 HN2 HB2
  go_wp2_with fail
  clear c0 c1 c2 c3
  refine (kind63 w3 2 (.string s) (.slice A 0 c)).mono ?_
  rintro e w4 ⟨rfl, h4⟩
  have hN4 := HN3.out.below h4 HN3.out.lt
  have HN4 := Lib.hid hN4
  have HB4 := Lib.hid (HB3.out.trans (h4.mono HB3.out.size))
  have c0 := hN4.cell 0
  have c1 := hN4.cell 1
  have c2 := hN4.cell 2
  have c3 := hN4.cell 3
  clear hN4 h4 HN3 HB3
  go_wp2_with fail
  clear c0 c1 c2 c3
  refine (group77 w4 (.int .i64 2) (.string s) (.slice A 0 c)).mono ?_
  rintro e w5 ⟨rfl, h5⟩
  have hN5 := HN4.out.below h5 HN4.out.lt
  have HN5 := Lib.hid hN5
  have HB5 := Lib.hid (HB4.out.trans (h5.mono HB4.out.size))
  have hG5 := HH.out.below HB5.out
  have HG5 := Lib.hid hG5
  have c0 := hN5.cell 0
  obtain ⟨b0, b1, _⟩ := hG5.cells
  clear hN5 h5 HN4 HB4 hG5
  go_wp2_with fail
  go_ret
  exact ⟨rfl, HG5.out, Kp.of_below HB5.out HH.out.hz⟩

/-- the contract of appendAttrs at one list. -/
def ListCon (B : Nat) (m : Md) (bh bs bp : Nat) (gs : Value) (k : Int) (fb : Bool) (l : List S102) : Prop := ∀ (w : World) (sep : ByteArray) (bl : List UInt8) (A : Option Addr) (n c : Nat),
  Gst w B m bh bs bp gs k fb sep bl → sep.size ≤ 1 → Tabs w → bl.length + bulkL l ≤ 70368744177664 → Kd.F k102 w (fun k => k < B) A n l →
  Calls Tryz.prog 46 #[.pointer (some ⟨bs, 0, none⟩), .slice A n c] w fun e w' => e = .returned (.bool (!l.isEmpty)) ∧ Gst w' B m bh bs bp gs k fb (outL sep l).2 (bl ++ (outL sep l).1) ∧ Kp B w w'

set_option maxRecDepth 100000 in
set_option maxHeartbeats 2000000 in
theorem attr_inline (h : Gst w B m bh bs bp gs k fb sep bl) (hsep : sep.size ≤ 1) (s : ByteArray) (A : Option Addr) (n c : Nat) (hT : Tabs w) (hB6 : 6 ≤ B) (l : List S102) (hl : l.isEmpty = false) (hF : Kd.F k102 w (fun k => k < B) A n l) (hcon : ListCon B m bh bs bp gs k fb l) (hlen : bl.length + bulkL l ≤ 70368744177664) :
    Calls Tryz.prog 62 #[.pointer (some ⟨bs, 0, none⟩), .agg #[.string ⟨#[]⟩, .int .i64 2, .string s, .slice A n c]] w (AttrGives w B m bh bs bp gs k fb (outL sep l).2 (bl ++ (outL sep l).1)) := by
  have hn : n = l.length := (Kd.F_len hF).symm
  have hn1 : l.length ≠ 0 := fun e => by rw [List.length_eq_zero_iff] at e; subst e; simp at hl
  have hn0 : decide (0 < n) = true := decide_eq_true (by omega)
  have HF := Lib.hid hF
  have HC := Lib.hid hcon
  have HE := Lib.hid hl
  clear hF hcon hl hn hn1
  have hba : Below w.heap.size w (w.alloc (.cells #[.string ⟨#[]⟩, .int .i64 2, .string s, .slice A n c] 102)) := (Below.refl _ _).alloc (Nat.le_refl _) _
  have HN := Lib.hid (wk.Blk.new w 102 #[.string ⟨#[]⟩, .int .i64 2, .string s, .slice A n c])
  have k75 := Lib.hid (resolve75 (w.alloc (.cells #[.string ⟨#[]⟩, .int .i64 2, .string s, .slice A n c] 102)) 2 s A n c)
  have HB := Lib.hid hba
  have HH := Lib.hid h
  have HT := Lib.hid hT
  have HL := Lib.hid hlen
  have HS := Lib.hid hsep
  clear hba h hT hlen hsep
  go_enter Tryz.func62, Tryz.ntmps62
  go_wp2_with fail
  refine k75.out.mono ?_
  rintro e w1 ⟨rfl, h1⟩
  have hN1 := HN.out.below h1 HN.out.lt
  have hb1 := HB.out.trans (h1.mono HB.out.size)
  have c0 := hN1.cell 0
  have c1 := hN1.cell 1
  have c2 := hN1.cell 2
  have c3 := hN1.cell 3
  have f1 := hN1.frozen 1
  have f2 := hN1.frozen 2
  have f3 := hN1.frozen 3
  have hN2 : wk.Blk (((w1.setCell ⟨w.heap.size, 1, none⟩ (.int .i64 2)).setCell ⟨w.heap.size, 2, none⟩ (.string s)).setCell ⟨w.heap.size, 3, none⟩ (.slice A n c)) w.heap.size 102 #[.string ⟨#[]⟩, .int .i64 2, .string s, .slice A n c] := ((hN1.set_ 1 (.int .i64 2)).set_ 2 (.string s)).set_ 3 (.slice A n c)
  have hb2 : Below w.heap.size w (((w1.setCell ⟨w.heap.size, 1, none⟩ (.int .i64 2)).setCell ⟨w.heap.size, 2, none⟩ (.string s)).setCell ⟨w.heap.size, 3, none⟩ (.slice A n c)) := ((hb1.setCell (p := ⟨w.heap.size, 1, none⟩) (Nat.le_refl _) _).setCell (p := ⟨w.heap.size, 2, none⟩) (Nat.le_refl _) _).setCell (p := ⟨w.heap.size, 3, none⟩) (Nat.le_refl _) _
  have HN2 := Lib.hid hN2
  have HB2 := Lib.hid hb2
  clear h1 k75 hN1 hb1 hN2 hb2
  go_wp2_with fail
  clear c0 c1 c2 c3 f1 f2 f3
  generalize (((w1.setCell ⟨w.heap.size, 1, none⟩ (.int .i64 2)).setCell ⟨w.heap.size, 2, none⟩ (.string s)).setCell ⟨w.heap.size, 3, none⟩ (.slice A n c)) = w2 at HN2 HB2 ⊢
  refine (isEmpty76 w2 ⟨#[]⟩ 2 (.string s) (.slice A n c) (by decide)).mono ?_
  rintro e w3 ⟨rfl, h3⟩
  have hN3 := HN2.out.below h3 HN2.out.lt
  have HN3 := Lib.hid hN3
  have HB3 := Lib.hid (HB2.out.trans (h3.mono HB2.out.size))
  have c0 := hN3.cell 0
  have c1 := hN3.cell 1
  have c2 := hN3.cell 2
  have c3 := hN3.cell 3
  clear hN3 h3 HN2 HB2
  go_wp2_with fail
  clear c0 c1 c2 c3
  refine (kind63 w3 2 (.string s) (.slice A n c)).mono ?_
  rintro e w4 ⟨rfl, h4⟩
  have hN4 := HN3.out.below h4 HN3.out.lt
  have HN4 := Lib.hid hN4
  have HB4 := Lib.hid (HB3.out.trans (h4.mono HB3.out.size))
  have c0 := hN4.cell 0
  have c1 := hN4.cell 1
  have c2 := hN4.cell 2
  have c3 := hN4.cell 3
  clear hN4 h4 HN3 HB3
  go_wp2_with fail
  clear c0 c1 c2 c3
  refine (group77 w4 (.int .i64 2) (.string s) (.slice A n c)).mono ?_
  rintro e w5 ⟨rfl, h5⟩
  have hN5 := HN4.out.below h5 HN4.out.lt
  have HN5 := Lib.hid hN5
  have HB5 := Lib.hid (HB4.out.trans (h5.mono HB4.out.size))
  have hG5 := HH.out.below HB5.out
  have HG5 := Lib.hid hG5
  have c0 := hN5.cell 0
  obtain ⟨b0, b1, _⟩ := hG5.cells
  clear hN5 h5 HN4 HB4 hG5
  go_wp2_with fail
  refine (len_g HG5.out).mono ?_
  rintro e w6 ⟨rfl, rfl⟩
  go_wp2_with fail
  have k46 := HC.out w5 sep bl A n c HG5.out HS.out (HT.out.below (HB5.out.mono HH.out.hz) hB6) HL.out (Kd.F_below HF.out HB5.out)
  rw [HE.out] at k46
  refine k46.mono ?_
  rintro e w7 ⟨rfl, hG7, hk7⟩
  have hN7 := hk7.k HN5.out (by decide)
  have HG7 := Lib.hid (And.intro hG7 ((Kp.of_below HB5.out HH.out.hz).trans hk7))
  clear c0 b0 b1
  have c0 := hN7.cell 0
  clear hN7 hG7 hk7 k46
  go_wp2_with fail
  go_ret
  exact ⟨rfl, HG7.out.1, HG7.out.2⟩

set_option maxRecDepth 100000 in
set_option maxHeartbeats 2000000 in
theorem attr_group (h : Gst w B m bh bs bp gs k fb sep bl) (hsep : sep.size ≤ 1) (key s : ByteArray) (hkey : key ≠ ⟨#[]⟩) (A : Option Addr) (n c : Nat) (hT : Tabs w) (hB6 : 6 ≤ B) (l : List S102) (hl : l.isEmpty = false) (hF : Kd.F k102 w (fun k => k < B) A n l) (hcon : ListCon B m bh bs bp gs k fb l) (hlen : bl.length + 6 * key.size + 10 + bulkL l ≤ 70368744177664) :
    Calls Tryz.prog 62 #[.pointer (some ⟨bs, 0, none⟩), .agg #[.string key, .int .i64 2, .string s, .slice A n c]] w (AttrGives w B m bh bs bp gs k fb ⟨#[44]⟩ (bl ++ (keyG sep key ++ [123] ++ (outL ⟨#[]⟩ l).1 ++ [125]))) := by
  have hn : n = l.length := (Kd.F_len hF).symm
  have hn1 : l.length ≠ 0 := fun e => by rw [List.length_eq_zero_iff] at e; subst e; simp at hl
  have hn0 : decide (0 < n) = true := decide_eq_true (by omega)
  have HF := Lib.hid hF
  have HC := Lib.hid hcon
  have HE := Lib.hid hl
  clear hF hcon hl hn hn1
  have hba : Below w.heap.size w (w.alloc (.cells #[.string key, .int .i64 2, .string s, .slice A n c] 102)) := (Below.refl _ _).alloc (Nat.le_refl _) _
  have HN := Lib.hid (wk.Blk.new w 102 #[.string key, .int .i64 2, .string s, .slice A n c])
  have k75 := Lib.hid (resolve75 (w.alloc (.cells #[.string key, .int .i64 2, .string s, .slice A n c] 102)) 2 s A n c)
  have HB := Lib.hid hba
  have HH := Lib.hid h
  have HT := Lib.hid hT
  have HL := Lib.hid hlen
  have HS := Lib.hid hsep
  clear hba h hT hlen hsep
  go_enter Tryz.func62, Tryz.ntmps62
  go_wp2_with fail
  refine k75.out.mono ?_
  rintro e w1 ⟨rfl, h1⟩
  have hN1 := HN.out.below h1 HN.out.lt
  have hb1 := HB.out.trans (h1.mono HB.out.size)
  have c0 := hN1.cell 0
  have c1 := hN1.cell 1
  have c2 := hN1.cell 2
  have c3 := hN1.cell 3
  have f1 := hN1.frozen 1
  have f2 := hN1.frozen 2
  have f3 := hN1.frozen 3
  have hN2 : wk.Blk (((w1.setCell ⟨w.heap.size, 1, none⟩ (.int .i64 2)).setCell ⟨w.heap.size, 2, none⟩ (.string s)).setCell ⟨w.heap.size, 3, none⟩ (.slice A n c)) w.heap.size 102 #[.string key, .int .i64 2, .string s, .slice A n c] := ((hN1.set_ 1 (.int .i64 2)).set_ 2 (.string s)).set_ 3 (.slice A n c)
  have hb2 : Below w.heap.size w (((w1.setCell ⟨w.heap.size, 1, none⟩ (.int .i64 2)).setCell ⟨w.heap.size, 2, none⟩ (.string s)).setCell ⟨w.heap.size, 3, none⟩ (.slice A n c)) := ((hb1.setCell (p := ⟨w.heap.size, 1, none⟩) (Nat.le_refl _) _).setCell (p := ⟨w.heap.size, 2, none⟩) (Nat.le_refl _) _).setCell (p := ⟨w.heap.size, 3, none⟩) (Nat.le_refl _) _
  have HN2 := Lib.hid hN2
  have HB2 := Lib.hid hb2
  clear h1 k75 hN1 hb1 hN2 hb2
  go_wp2_with fail
  clear c0 c1 c2 c3 f1 f2 f3
  generalize (((w1.setCell ⟨w.heap.size, 1, none⟩ (.int .i64 2)).setCell ⟨w.heap.size, 2, none⟩ (.string s)).setCell ⟨w.heap.size, 3, none⟩ (.slice A n c)) = w2 at HN2 HB2 ⊢
  refine (isEmpty76 w2 key 2 (.string s) (.slice A n c) (by decide)).mono ?_
  rintro e w3 ⟨rfl, h3⟩
  have hN3 := HN2.out.below h3 HN2.out.lt
  have HN3 := Lib.hid hN3
  have HB3 := Lib.hid (HB2.out.trans (h3.mono HB2.out.size))
  have c0 := hN3.cell 0
  have c1 := hN3.cell 1
  have c2 := hN3.cell 2
  have c3 := hN3.cell 3
  clear hN3 h3 HN2 HB2
  go_wp2_with fail
  clear c0 c1 c2 c3
  refine (kind63 w3 2 (.string s) (.slice A n c)).mono ?_
  rintro e w4 ⟨rfl, h4⟩
  have hN4 := HN3.out.below h4 HN3.out.lt
  have HN4 := Lib.hid hN4
  have HB4 := Lib.hid (HB3.out.trans (h4.mono HB3.out.size))
  have c0 := hN4.cell 0
  have c1 := hN4.cell 1
  have c2 := hN4.cell 2
  have c3 := hN4.cell 3
  clear hN4 h4 HN3 HB3
  go_wp2_with fail
  clear c0 c1 c2 c3
  refine (group77 w4 (.int .i64 2) (.string s) (.slice A n c)).mono ?_
  rintro e w5 ⟨rfl, h5⟩
  have hN5 := HN4.out.below h5 HN4.out.lt
  have HN5 := Lib.hid hN5
  have HB5 := Lib.hid (HB4.out.trans (h5.mono HB4.out.size))
  have hG5 := HH.out.below HB5.out
  have HG5 := Lib.hid hG5
  have c0 := hN5.cell 0
  obtain ⟨b0, b1, _⟩ := hG5.cells
  clear hN5 h5 HN4 HB4 hG5
  go_wp2_with fail
  refine (len_g HG5.out).mono ?_
  rintro e w6 ⟨rfl, rfl⟩
  have hk1 : key.toList.isEmpty = false := by
    rw [ByteArray.toList_eq]
    cases hl : key.data.toList with
    | nil => exact absurd (ByteArray.ext (Array.toList_inj.1 hl)) hkey
    | cons _ _ => rfl
  go_wp2_with fail
  refine (openGroup_g HG5.out HS.out key (HT.out.below (HB5.out.mono HH.out.hz) hB6) hB6 (by have := HL.out; omega)).mono ?_
  rintro e w7 ⟨rfl, hG7, hk7⟩
  have hN7 := hk7.k HN5.out (by decide)
  have HK7 := Lib.hid ((Kp.of_below HB5.out HH.out.hz).trans hk7)
  have HG7 := Lib.hid hG7
  clear c0 b0 b1
  have HN7 := Lib.hid hN7
  have c0 := hN7.cell 0
  clear hN7 hG7 hk7 HN5
  go_wp2_with fail
  have k46 := HC.out w7 ⟨#[]⟩ _ A n c HG7.out (by decide) (HT.out.below HK7.out.b hB6) (by have := HL.out; have := keyG_length sep key HS.out; rw [List.length_append, List.length_append, List.length_singleton]; omega) (Kd.F_step HF.out (fun k hk _ => HK7.out.b.block k hk))
  rw [HE.out] at k46
  refine k46.mono ?_
  rintro e w8 ⟨rfl, hG8, hk8⟩
  have hN8 := hk8.k HN7.out (by decide)
  have HG8 := Lib.hid hG8
  have HK8 := Lib.hid (HK7.out.trans hk8)
  clear c0
  have HN8 := Lib.hid hN8
  have c0 := hN8.cell 0
  clear hN8 hG8 hk8 k46
  go_wp2_with fail
  refine (closeGroup_g HG8.out key (by have := HL.out; have := keyG_length sep key HS.out; have := outL_len l ⟨#[]⟩ (by decide); simp only [List.length_append, List.length_singleton]; omega)).mono ?_
  rintro e w9 ⟨rfl, hG9, hk9⟩
  have HG9 := Lib.hid (And.intro hG9 (HK8.out.trans hk9))
  clear hG9 hk9
  go_wp2_with fail
  go_ret
  refine ⟨rfl, ?_, HG9.out.2⟩
  have := HG9.out.1
  simpa only [List.append_assoc] using this
end
end Go.Proofs.YtcllhgajdcemiaaGreatDoor.jb

namespace Go.Proofs.YtcllhgajdcemiaaGreatDoor.jb
open Go.RowKit Go.Proofs.YtcllhgajdcemiaaGreatDoorW.PrintWords
set_option linter.unusedVariables false
set_option linter.unusedSimpArgs false
section
variable {w w' w1 : World} {B bh bs bp : Nat} {m : Md} {gs v : Value} {k : Int} {fb : Bool} {sep sep' : ByteArray} {bl bl' : List UInt8}

/-- the contract of appendAttr at one attribute. -/
def AttrCon (B : Nat) (m : Md) (bh bs bp : Nat) (gs : Value) (k : Int) (fb : Bool) (a : S102) : Prop := ∀ (w : World) (sep : ByteArray) (bl : List UInt8) (A : Option Addr) (c : Nat),
  Gst w B m bh bs bp gs k fb sep bl → sep.size ≤ 1 → Tabs w → bl.length + bulkA a ≤ 70368744177664 → Kd.F k102 w (fun k => k < B) A a.f3.length a.f3 →
  Calls Tryz.prog 62 #[.pointer (some ⟨bs, 0, none⟩), .agg #[.string a.f0, .int .i64 a.f1, .string a.f2, .slice A a.f3.length c]] w (AttrGives w B m bh bs bp gs k fb (outA sep a).2 (bl ++ (outA sep a).1))

theorem at_F102 {w : World} {ok : Nat → Prop} {A : Option Addr} {n : Nat} {xs : List S102} (h : Kd.F k102 w ok A n xs) (i : Nat) (hi : i < xs.length) : ∃ ad A3 c3, A = some ad ∧ w.cell? (ad.add (i * 4)) = some (.string xs[i].f0) ∧ w.cell? ⟨(ad.add (i * 4)).block, (ad.add (i * 4)).off + 1, none⟩ = some (.int .i64 xs[i].f1) ∧ w.cell? ⟨(ad.add (i * 4)).block, (ad.add (i * 4)).off + 2, none⟩ = some (.string xs[i].f2) ∧ w.cell? ⟨(ad.add (i * 4)).block, (ad.add (i * 4)).off + 3, none⟩ = some (.slice A3 xs[i].f3.length c3) ∧ xs[i].f3.length ≤ c3 ∧ Kd.F k102 w ok A3 xs[i].f3.length xs[i].f3 := by
  have hn := Kd.F_len h
  obtain ⟨ad, c, e, h2, hK, hc0⟩ := Kd.F_get h z102 (i : Int) (by omega) (by omega)
  have hx : xs.getD (i : Int).toNat z102 = xs[i] := by simp [hi]
  rw [hx] at hK
  have hc : ∀ j u, c[j]? = some u → w.cell? (ad.add (i * 4 + j)) = some u := hc0.1
  obtain ⟨A3, c3, rfl, l3, g3⟩ := k102_openF hK
  exact ⟨ad, A3, c3, e, hc 0 _ rfl, by rw [← add_field _ _ 1 (by omega)]; exact hc 1 _ rfl, by rw [← add_field _ _ 2 (by omega)]; exact hc 2 _ rfl, by rw [← add_field _ _ 3 (by omega)]; exact hc 3 _ rfl, l3, g3⟩

theorem outL_snoc (a : S102) : ∀ (l : List S102) (sep : ByteArray), outL sep (l ++ [a]) = ((outL sep l).1 ++ (outA (outL sep l).2 a).1, (outA (outL sep l).2 a).2)
  | [], sep => by simp [outL]
  | b :: l, sep => by
    rw [List.cons_append]
    simp only [outL]
    rw [outL_snoc a l]
    simp [List.append_assoc]
theorem bulkL_take : ∀ (l : List S102) (i : Nat) (hi : i < l.length), bulkL (l.take i) + bulkA l[i] ≤ bulkL l
  | [], i, hi => by simp at hi
  | a :: l, 0, hi => by simp [bulkL]
  | a :: l, i + 1, hi => by
    have := bulkL_take l i (by simpa using hi)
    simp only [List.take_succ_cons, bulkL, List.getElem_cons_succ]
    omega

set_option maxRecDepth 100000 in
set_option maxHeartbeats 2000000 in
theorem list_con (l : List S102) (hB6 : 6 ≤ B) (hall : ∀ a ∈ l, AttrCon B m bh bs bp gs k fb a) : ListCon B m bh bs bp gs k fb l := by
  intro w sep bl A n c h hsep hT hlen hF
  have hn := Kd.F_len hF
  subst hn
  have HH := Lib.hid h
  have HS := Lib.hid hsep
  have HT := Lib.hid hT
  have HL := Lib.hid hlen
  have HF := Lib.hid hF
  have HA := Lib.hid hall
  have HM := Lib.hid (Kd.F_max hF)
  clear h hsep hT hlen hF hall
  go_enter Tryz.func46, Tryz.ntmps46
  go_wp2_with fail
  go_loopg [5, 10] (l.length) (fun j v5 v10 wr => ∃ i : Nat, v5 = .bool (!(l.take i).isEmpty) ∧ v10 = .int .i64 i ∧ Aside (i ≤ l.length ∧ j = l.length - i ∧ Gst wr B m bh bs bp gs k fb (outL sep (l.take i)).2 (bl ++ (outL sep (l.take i)).1) ∧ Kp B w wr))
  case atStart => exact ⟨0, by simp, rfl, Nat.zero_le _, rfl, by simpa [outL] using HH.out, Kp.refl B w⟩
  case round =>
    obtain ⟨i, rfl, rfl, HI⟩ := hrel
    by_cases hi : i < l.length
    · have hi0 : decide ((i : Int) < (l.length : Int)) = true := decide_eq_true (by omega)
      have hF1 := Kd.F_step HF.out (fun k hk _ => HI.out.2.2.2.b.block k hk)
      obtain ⟨ad, A3, c3, e, hx0, hx1, hx2, hx3, hl3, hF3⟩ := at_F102 hF1 i hi
      cases e
      have HE := Lib.hid (And.intro hl3 hF3)
      have hco := HA.out l[i] (List.getElem_mem hi)
      have HC := Lib.hid hco
      have HI2 := Lib.hid HI.out
      clear hl3 hF3 hF1 HI hco
      go_wp2_with fail
      have hba : Below wr.heap.size wr (wr.alloc (.cells #[.string l[i].f0, .int .i64 l[i].f1, .string l[i].f2, .slice A3 l[i].f3.length c3] 102)) := (Below.refl _ _).alloc (Nat.le_refl _) _
      obtain ⟨hi2, hgk, hG, hKp⟩ := HI2.out
      have hlen2 : bl.length + (outL sep (l.take i)).1.length + bulkA l[i] ≤ 70368744177664 := by
        have q1 := outL_len (l.take i) sep HS.out
        have q2 := bulkL_take l i hi
        have q3 := HL.out
        omega
      have hKa := hKp.trans (Kp.of_below hba hG.hz)
      refine (HC.out _ _ _ A3 c3 (hG.below hba) (outL_sep _ _ HS.out) (HT.out.below hKa.b hB6) (by rw [List.length_append]; exact hlen2) (Kd.F_below HE.out.2 hba)).mono ?_
      rintro e w2 ⟨rfl, hG2, hK2⟩
      have HG2 := Lib.hid (And.intro hG2 (hKa.trans hK2))
      have HK := Lib.hid hgk
      clear hG2 hK2 hKa hba hG hKp hlen2 hgk hx0 hx1 hx2 hx3 HI2
      have hadd : wrap64 ((i : Int) + 1) = (i : Int) + 1 := IntWalk.wrap64_in _ ⟨by omega, by have := HM.out; omega⟩
      go_wp2_with fail
      go_roundg (l.length - (i + 1))
      case measure => have := HK.out; omega
      case rel =>
        have e1 : l.take (i + 1) = l.take i ++ [l[i]] := (List.take_append_getElem hi).symm
        have e2 := outL_snoc l[i] (l.take i) sep
        refine ⟨i + 1, ?_, ?_, hi, rfl, ?_, HG2.out.2⟩
        · rw [e1]
          simp
          have h0 : 0 < l.length := by omega
          intro hh
          rw [hh] at h0
          simp at h0
        · rw [hadd]; simp
        · rw [e1, e2]
          have := HG2.out.1
          rw [List.append_assoc] at this
          exact this
    · have hi0 : decide ((i : Int) < (l.length : Int)) = false := decide_eq_false (by omega)
      have hil : i = l.length := by have := HI.out.1; omega
      have HI2 := Lib.hid HI.out
      have HJ := Lib.hid hil
      clear HI hil
      go_wp2_with fail
      go_ret
      obtain ⟨_, _, g1, g2⟩ := HI2.out
      rw [HJ.out, List.take_length] at g1
      refine ⟨?_, g1, g2⟩
      rw [HJ.out, List.take_length]
      simp

mutual
theorem attr_con (hB6 : 6 ≤ B) : ∀ (a : S102), goodA a = true → AttrCon B m bh bs bp gs k fb a
  | ⟨key, n, s, l⟩, hg => by
    intro w sep bl A c h hsep hT hlen hF
    unfold goodA at hg
    unfold bulkA at hlen
    by_cases hn : n = 2
    · subst hn
      have hgl : goodL l = true := by simpa using hg
      have hlc : ListCon B m bh bs bp gs k fb l := list_con l hB6 (attrs_con hB6 l hgl)
      cases hl : l.isEmpty with
      | true =>
        have hl0 : l = [] := List.isEmpty_iff.1 hl
        subst hl0
        have := attr_none h key s A c
        simpa [outA] using this
      | false =>
        by_cases hk : key = ⟨#[]⟩
        · subst hk
          have e : outA sep ⟨⟨#[]⟩, 2, s, l⟩ = outL sep l := by
            unfold outA
            rw [if_pos rfl, if_neg (by simp [hl]), if_pos (show (⟨#[]⟩ : ByteArray).size = 0 from rfl)]
          rw [e]
          exact attr_inline h hsep s A l.length c hT hB6 l hl hF hlc (by omega)
        · have hks : key.size ≠ 0 := fun e => hk (ByteArray.ext (Array.eq_empty_of_size_eq_zero e))
          have := attr_group h hsep key s hk A l.length c hT hB6 l hl hF hlc (by omega)
          simpa [outA, hl, hks] using this
    · have hn1 : n = 1 := by
        have : (n == 2) = false := by simp [hn]
        simpa [this] using hg
      subst hn1
      have := attr_str h hsep key s A l.length c hT hB6 (by omega)
      simpa [outA] using this
theorem attrs_con (hB6 : 6 ≤ B) : ∀ (l : List S102), goodL l = true → ∀ a, a ∈ l → AttrCon B m bh bs bp gs k fb a
  | [], _ => fun a hm => by simp at hm
  | b :: l, hg => fun a hm => by
    unfold goodL at hg
    rw [Bool.and_eq_true, Bool.and_eq_true] at hg
    have h1 := attr_con hB6 b hg.1.1
    have h2 := attrs_con hB6 l hg.2
    rcases List.mem_cons.1 hm with e | hm
    · rw [e]; exact h1
    · exact h2 a hm
end
/-- appendAttrs at every list in which no inner group is empty. -/
theorem appendAttrs_g (hB6 : 6 ≤ B) (l : List S102) (hg : ∀ a, a ∈ l → goodA a = true) : ListCon B m bh bs bp gs k fb l := list_con l hB6 (fun a ha => attr_con hB6 a (hg a ha))
end
end Go.Proofs.YtcllhgajdcemiaaGreatDoor.jb

namespace Go.Proofs.YtcllhgajdcemiaaGreatDoor.jb
open Go.RowKit Go.Proofs.YtcllhgajdcemiaaGreatDoorW.PrintWords
set_option linter.unusedVariables false
set_option linter.unusedSimpArgs false
/-- what is written of the names of groups. -/
def outG : ByteArray → List ByteArray → List UInt8 × ByteArray
  | sep, [] => ([], sep)
  | sep, n :: l => (keyG sep n ++ [123] ++ (outG ⟨#[]⟩ l).1, (outG ⟨#[]⟩ l).2)
def bulkG : List ByteArray → Nat
  | [] => 0
  | n :: l => 6 * n.size + 10 + bulkG l
theorem outG_sep : ∀ (l : List ByteArray) (sep : ByteArray), sep.size ≤ 1 → (outG sep l).2.size ≤ 1
  | [], _, h => h
  | n :: l, _, _ => outG_sep l ⟨#[]⟩ (by decide)
theorem outG_len : ∀ (l : List ByteArray) (sep : ByteArray), sep.size ≤ 1 → (outG sep l).1.length ≤ bulkG l
  | [], _, h => by simp [outG]
  | n :: l, sep, h => by
    have h1 := outG_len l ⟨#[]⟩ (by decide)
    have h2 := keyG_length sep n h
    unfold outG bulkG
    simp only [List.length_append, List.length_singleton]
    omega
theorem outG_snoc (a : ByteArray) : ∀ (l : List ByteArray) (sep : ByteArray), outG sep (l ++ [a]) = ((outG sep l).1 ++ (keyG (outG sep l).2 a ++ [123]), ⟨#[]⟩)
  | [], sep => by simp [outG]
  | b :: l, sep => by
    rw [List.cons_append]
    simp only [outG]
    rw [outG_snoc a l]
    simp [List.append_assoc]
theorem bulkG_take : ∀ (l : List ByteArray) (i : Nat) (hi : i < l.length), bulkG (l.take i) + (6 * l[i].size + 10) ≤ bulkG l
  | [], i, hi => by simp at hi
  | a :: l, 0, hi => by simp [bulkG]
  | a :: l, i + 1, hi => by
    have := bulkG_take l i (by simpa using hi)
    simp only [List.take_succ_cons, bulkG, List.getElem_cons_succ]
    omega
section
variable {w w' w1 : World} {B bh bs bp : Nat} {m : Md} {k : Int} {fb : Bool} {sep sep' : ByteArray} {bl bl' : List UInt8}

set_option maxRecDepth 100000 in
set_option maxHeartbeats 2000000 in
/-- no group to open. -/
theorem openGroups_none (A : Option Addr) (c : Nat) (ns : List ByteArray) (hc : ns.length ≤ c) (h : Gst w B m bh bs bp (.slice A ns.length c) (ns.length : Int) fb sep bl) :
    Calls Tryz.prog 45 #[.pointer (some ⟨bs, 0, none⟩)] w fun e w' => e = .returned (.tuple #[]) ∧ Gst w' B m bh bs bp (.slice A ns.length c) (ns.length : Int) fb sep bl ∧ Kp B w w' := by
  obtain ⟨c0, c1, c3, c4, c5, d0, p0, f3, d3, d4, d2⟩ := h.cells
  have HH := Lib.hid h
  clear h
  by_cases hcj : c = ns.length
  · subst hcj
    go_enter Tryz.func45, Tryz.ntmps45
    go_wp2_with fail
    go_region_held3 (fun w' => w'.cell? ⟨bs, 0, none⟩ = some (.pointer (some ⟨bh, 0, none⟩)) ∧ w'.cell? ⟨bh, 3, none⟩ = some (.slice A ns.length ns.length) ∧ w'.cell? ⟨bh, 4, none⟩ = some (.int .i64 (ns.length : Int)))
      (go_keep)
      (fail)
    go_wp2_with fail
    clear c0 c1 c3 c4 c5 d0 p0 f3 d2 d3 d4
    refine wp_loop_rounds 1 ?_
    rw [rounds_succ]
    go_wp2_with fail
    go_end0
    exact ⟨rfl, HH.out.drew, (Kp.refl B w).drew⟩
  · go_enter Tryz.func45, Tryz.ntmps45
    go_wp2_with fail
    go_region_held3 (fun w' => w'.cell? ⟨bs, 0, none⟩ = some (.pointer (some ⟨bh, 0, none⟩)) ∧ w'.cell? ⟨bh, 3, none⟩ = some (.slice A ns.length c) ∧ w'.cell? ⟨bh, 4, none⟩ = some (.int .i64 (ns.length : Int)))
      (go_keep)
      (fail)
    go_wp2_with fail
    clear c0 c1 c3 c4 c5 d0 p0 f3 d2 d3 d4
    refine wp_loop_rounds 1 ?_
    rw [rounds_succ]
    go_wp2_with fail
    go_end0
    exact ⟨rfl, HH.out.drew, (Kp.refl B w).drew⟩

theorem at_Fstr {w : World} {ok : Nat → Prop} {A : Option Addr} {n : Nat} {xs : List ByteArray} (h : Kd.F Kd.string w ok A n xs) (i : Nat) (hi : i < xs.length) : ∃ ad, A = some ad ∧ w.cell? (ad.add i) = some (.string xs[i]) := by
  have hn := Kd.F_len h
  obtain ⟨ad, c, e, h2, hK, hc0⟩ := Kd.F_get h ⟨#[]⟩ (i : Int) (by omega) (by omega)
  have hx : xs.getD (i : Int).toNat ⟨#[]⟩ = xs[i] := by simp [hi]
  rw [hx] at hK
  have hc : ∀ j u, c[j]? = some u → w.cell? (ad.add (i * 1 + j)) = some u := hc0.1
  have hcc : c = [.string xs[i]] := Kd.FK_now hK
  subst hcc
  have := hc 0 _ rfl
  rw [Nat.mul_one, Nat.add_zero] at this
  exact ⟨ad, e, this⟩

set_option maxRecDepth 100000 in
set_option maxHeartbeats 2000000 in
theorem openGroups_g (A : Option Addr) (c : Nat) (ns : List ByteArray) (j : Nat) (hj : j ≤ ns.length) (hc : ns.length ≤ c) (h : Gst w B m bh bs bp (.slice A ns.length c) (j : Int) fb sep bl) (hsep : sep.size ≤ 1) (hT : Tabs w) (hB6 : 6 ≤ B) (hF : Kd.F Kd.string w (fun k => k < B) A ns.length ns) (hlen : bl.length + bulkG (ns.drop j) ≤ 70368744177664) :
    Calls Tryz.prog 45 #[.pointer (some ⟨bs, 0, none⟩)] w fun e w' => e = .returned (.tuple #[]) ∧ Gst w' B m bh bs bp (.slice A ns.length c) (j : Int) fb (outG sep (ns.drop j)).2 (bl ++ (outG sep (ns.drop j)).1) ∧ Kp B w w' := by
  by_cases hjn : j = ns.length
  · subst hjn
    have := openGroups_none A c ns hc h
    simpa [outG] using this
  · obtain ⟨a0, e⟩ : ∃ a0, A = some a0 := (at_Fstr hF 0 (by omega)).imp (fun _ h => h.1)
    subst e
    have hcj : c ≠ j := by omega
    obtain ⟨c0, c1, c3, c4, c5, d0, p0, f3, d3, d4, d2⟩ := h.cells
    have hF2 := Kd.F_cut hF hj hc
    rw [if_neg hcj] at hF2
    have hF3 : Kd.F Kd.string w (fun k => k < B) (some (a0.add j)) (ns.drop j).length (ns.drop j) := by
      have e : j * Kd.string.sz = j := Nat.mul_one j
      rw [e] at hF2
      exact hF2
    have HN := Lib.hid (show ns.length - j = (ns.drop j).length by simp)
    have HH := Lib.hid h
    have HS := Lib.hid hsep
    have HT := Lib.hid hT
    have HL := Lib.hid hlen
    have HM := Lib.hid (Kd.F_max hF)
    have HF := Lib.hid hF3
    have HJ := Lib.hid hjn
    clear h hsep hT hlen hF hF2 hF3 hjn
    generalize ns.drop j = L at HN HL HF ⊢
    go_enter Tryz.func45, Tryz.ntmps45
    go_wp2_with fail
    go_region_held3 (fun w' => w'.cell? ⟨bs, 0, none⟩ = some (.pointer (some ⟨bh, 0, none⟩)) ∧ w'.cell? ⟨bh, 3, none⟩ = some (.slice (some a0) ns.length c) ∧ w'.cell? ⟨bh, 4, none⟩ = some (.int .i64 (j : Int)))
      (go_keep)
      (fail)
    go_wp2_with fail
    clear c0 c1 c3 c4 c5 d0 p0 f3 d2 d3 d4
    rw [HN.out]
    go_loopg [20] (L.length) (fun q v20 wr => ∃ i : Nat, v20 = .int .i64 i ∧ Aside (i ≤ L.length ∧ q = L.length - i ∧ Gst wr B m bh bs bp (.slice (some a0) ns.length c) (j : Int) fb (outG sep (L.take i)).2 (bl ++ (outG sep (L.take i)).1) ∧ Kp B w wr))
    case atStart => exact ⟨0, rfl, Nat.zero_le _, rfl, by simpa [outG] using HH.out.drew, (Kp.refl B w).drew⟩
    case round =>
      obtain ⟨i, rfl, HI⟩ := hrel
      by_cases hi : i < L.length
      · have hi0 : decide ((i : Int) < (L.length : Int)) = true := decide_eq_true (by omega)
        obtain ⟨ad, e, hx⟩ := at_Fstr (Kd.F_step HF.out (fun k hk _ => HI.out.2.2.2.b.block k hk)) i hi
        cases e
        have HI2 := Lib.hid HI.out
        clear HI
        go_wp2_with fail
        obtain ⟨hi2, hgk, hG, hKp⟩ := HI2.out
        have hlen2 : bl.length + (outG sep (L.take i)).1.length + (6 * L[i].size + 10) ≤ 70368744177664 := by
          have q1 := outG_len (L.take i) sep HS.out
          have q2 := bulkG_take L i hi
          have q3 := HL.out
          omega
        refine (openGroup_g hG (outG_sep _ _ HS.out) L[i] (HT.out.below hKp.b hB6) hB6 (by rw [List.length_append]; omega)).mono ?_
        rintro e w2 ⟨rfl, hG2, hK2⟩
        have HG2 := Lib.hid (And.intro hG2 (hKp.trans hK2))
        have HK := Lib.hid hgk
        clear hG2 hK2 hG hKp hlen2 hgk hx HI2
        have hLm : L.length ≤ 9223372036854775807 := by have := HM.out; have := HN.out; omega
        have HLm := Lib.hid hLm
        clear hLm
        go_wp2_with fail
        go_roundg (L.length - (i + 1))
        case measure => have := HK.out; omega
        case rel =>
          have hadd : wrap64 ((i : Int) + 1) = (i : Int) + 1 := IntWalk.wrap64_in _ ⟨by omega, by have := HLm.out; omega⟩
          have e1 : L.take (i + 1) = L.take i ++ [L[i]] := (List.take_append_getElem hi).symm
          have e2 := outG_snoc L[i] (L.take i) sep
          refine ⟨i + 1, ?_, hi, rfl, ?_, HG2.out.2⟩
          · rw [hadd]; simp
          · rw [e1, e2]
            have := HG2.out.1
            simpa only [List.append_assoc] using this
      · have hi0 : decide ((i : Int) < (L.length : Int)) = false := decide_eq_false (by omega)
        have hil : i = L.length := by have := HI.out.1; omega
        have HI2 := Lib.hid HI.out
        have HJ2 := Lib.hid hil
        clear HI hil
        go_wp2_with fail
        go_end0
        obtain ⟨_, _, g1, g2⟩ := HI2.out
        rw [HJ2.out, List.take_length] at g1
        exact ⟨rfl, g1, g2⟩
end
end Go.Proofs.YtcllhgajdcemiaaGreatDoor.jb

namespace Go.Proofs.YtcllhgajdcemiaaGreatDoor.jb
open Go.RowKit Go.Proofs.YtcllhgajdcemiaaGreatDoorW.PrintWords
open Go.Proofs.YtcllhgajdcemiaaGreatDoor.wk (Blk)
set_option linter.unusedVariables false
set_option linter.unusedSimpArgs false

set_option maxRecDepth 100000 in
theorem clip58 (w : World) (A : Option Addr) (n c : Nat) (hc : n ≤ c) : Calls Tryz.prog 58 #[.slice A n c] w fun e w' => e = .returned (.slice A n n) ∧ w = w' := by
  go_enter Tryz.func58, Tryz.ntmps58
  go_wp2_with fail
  go_ret
  exact ⟨rfl, rfl⟩
set_option maxRecDepth 100000 in
theorem clip59 (w : World) (A : Option Addr) (n c : Nat) (hc : n ≤ c) : Calls Tryz.prog 59 #[.slice A n c] w fun e w' => e = .returned (.slice A n n) ∧ w = w' := by
  go_enter Tryz.func59, Tryz.ntmps59
  go_wp2_with fail
  go_ret
  exact ⟨rfl, rfl⟩

set_option maxRecDepth 100000 in
set_option maxHeartbeats 2000000 in
theorem clone38 (w : World) (b : Nat) (A : Option Addr) (n c : Nat) (hc : n ≤ c) (G : Option Addr) (gn gc : Nat) (hgc : gn ≤ gc) (k : Int) (h : Blk w b 68 #[.bool true, .slice A n c, .string ⟨#[]⟩, .slice G gn gc, .int .i64 k]) :
    Calls Tryz.prog 38 #[.pointer (some ⟨b, 0, none⟩)] w fun e w' => ∃ b', e = .returned (.pointer (some ⟨b', 0, none⟩)) ∧ w.heap.size ≤ b' ∧ Blk w' b' 68 #[.bool true, .slice A n n, .string ⟨#[]⟩, .slice G gn gn, .int .i64 k] ∧ Below w.heap.size w w' := by
  have c0 := h.cell 0
  have c1 := h.cell 1
  have c2 := h.cell 2
  have c3 := h.cell 3
  have c4 := h.cell 4
  go_enter Tryz.func38, Tryz.ntmps38
  go_wp2_with fail
  go_region_held3 (fun w' => w'.cell? ⟨b, 0, none⟩ = some (.bool true) ∧ w'.cell? ⟨b, 1, none⟩ = some (.slice A n c) ∧ w'.cell? ⟨b, 2, none⟩ = some (.string ⟨#[]⟩) ∧ w'.cell? ⟨b, 3, none⟩ = some (.slice G gn gc) ∧ w'.cell? ⟨b, 4, none⟩ = some (.int .i64 k))
    (go_keep)
    ((first | (go_at_call 58; refine (clip58 _ A n c hc).mono ?_; rintro e w1 ⟨rfl, rfl⟩) | (go_at_call 59; refine (clip59 _ G gn gc hgc).mono ?_; rintro e w1 ⟨rfl, rfl⟩)))
  go_wp2
  go_ret
  exact ⟨_, rfl, Nat.le_refl _, Blk.new _ _ _, ((Below.refl _ w).alloc (Nat.le_refl _) _).drew⟩
end Go.Proofs.YtcllhgajdcemiaaGreatDoor.jb
