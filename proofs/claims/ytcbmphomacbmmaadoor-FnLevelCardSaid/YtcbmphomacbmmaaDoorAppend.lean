/-
  appendString and appendKey at strings that need no quoting, in text and in JSON. Conditions: no group is open (the prefix is empty), safeSet as its initialiser lays it, the line takes at most 2^47 bytes.
-/
import Derived.Test.YtcbmphomacbmmaaDoorState
import Derived.Test.YtcbmphomacbmmaaDoorQuote
namespace Go.Proofs.YtcbmphomacbmmaaDoor
open Go.RowKit

/-- a text as the handler writes it. -/
def strOf (js : Bool) (s : List UInt8) : List UInt8 := if js then 34 :: (s ++ [34]) else s

section
variable {w w' : World} {B bh bs bb bp : Nat} {js fb : Bool} {sep : ByteArray} {l l' : List UInt8}

theorem len34 (l : List UInt8) (s : ByteArray) : (l ++ [34] ++ s.data.toList).length = l.length + 1 + s.size := by
  rw [List.length_append, List.length_append, Array.length_toList]
  rfl

/-- the loads of a state, for the walk. -/
theorem St.cells (h : St w B js bh bs bb bp fb sep l) :
    w.cell? ⟨bs, 0, none⟩ = some (.pointer (some ⟨bh, 0, none⟩)) ∧ w.cell? ⟨bs, 1, none⟩ = some (.pointer (some ⟨bb, 0, none⟩)) ∧ w.cell? ⟨bs, 3, none⟩ = some (.string sep) ∧
    w.cell? ⟨bs, 4, none⟩ = some (.pointer (some ⟨bp, 0, none⟩)) ∧ w.cell? ⟨bs, 5, none⟩ = some (.pointer none) ∧ w.cell? ⟨bh, 0, none⟩ = some (.bool js) ∧ w.cell? ⟨bp, 0, none⟩ = some (.slice none 0 0) ∧
    w.frozen? ⟨bs, 3, none⟩ = false :=
  ⟨h.s.cell 0, h.s.cell 1, h.s.cell 3, h.s.cell 4, h.s.cell 5, h.h.cell 0, h.p.cell 0, h.s.frozen 3⟩

set_option maxHeartbeats 1000000 in
theorem appendString_text (h : St w B false bh bs bb bp fb sep l) (s : ByteArray) (hs : okS s) (hw : Safe w) (hlen : l.length + 1002 ≤ 140737488355328) :
    Calls Tryd.prog 35 #[.pointer (some ⟨bs, 0, none⟩), .string s] w fun e w' => e = .returned (.tuple #[]) ∧ St w' B false bh bs bb bp fb sep (l ++ s.data.toList) ∧ Below B w w' := by
  obtain ⟨c0, c1, c3, c4, c5, d0, p0, f3⟩ := h.cells
  have hm := hs.2.1
  have k47 := Lib.hid (needsQuoting_ok s w hs hw)
  have k23 := Lib.hid (writeString_st h s (by omega))
  clear hs hw h hlen hm
  go_enter Tryd.func35, Tryd.ntmps35
  go_wp2_with (first | (go_at_call 47; go_must (refine k47.out.mono ?_; rintro e w' ⟨rfl, rfl⟩)) | (go_at_call 23; go_must (refine k23.out.mono ?_; rintro e w' ⟨rfl, hst, hbel⟩)))
  go_end0
  exact ⟨rfl, hst, hbel⟩

/-- appendEscapedJSONString on the state's own buffer: what the walk needs behind it, and the state once the result is stored. -/
theorem escJSON_st (h : St w B js bh bs bb bp fb sep l) (v : Value) (hv : Blk w bb 44 #[v]) (hown : w.ownsRow B 5 1 v l.length (bytesOf l)) (s : ByteArray) (hs : okS s) (hw : Safe w) (hB0 : 0 < B)
    (hlen : l.length + 1000 ≤ 140737488355328) :
    Calls Tryd.prog 46 #[v, .string s] w fun e w' => ∃ A n c, e = .returned (.slice A n c) ∧ w'.cell? ⟨bs, 1, none⟩ = some (.pointer (some ⟨bb, 0, none⟩)) ∧ w'.cell? ⟨bb, 0, none⟩ = some v ∧ w'.frozen? ⟨bb, 0, none⟩ = false ∧
      St (w'.setCell ⟨bb, 0, none⟩ (.slice A n c)) B js bh bs bb bp fb sep (l ++ s.data.toList) ∧ Below B w (w'.setCell ⟨bb, 0, none⟩ (.slice A n c)) := by
  have hm := hs.2.1
  refine (escJSON_ok s w hs hw B v l hown h.hz hB0 (by omega)).mono ?_
  rintro e w1 ⟨v', rfl, ho, hg⟩
  obtain ⟨A', c', rfl⟩ := own_form ho
  have hs1 := h.s.grown hg (own_blk_ne hown h.s (by decide)).symm
  have hb1 := hv.grown hg (own_blk_ne hown hv (by decide)).symm
  have hst := Wrote.st h hv hown ⟨w1, _, rfl, hg, ho⟩
  exact ⟨_, _, _, rfl, hs1.cell 1, hb1.cell 0, hb1.frozen 0, hst.1, hst.2⟩

set_option maxRecDepth 100000 in
set_option maxHeartbeats 2000000 in
theorem appendString_json (h : St w B true bh bs bb bp fb sep l) (s : ByteArray) (hs : okS s) (hw : Safe w) (hB0 : 0 < B) (hlen : l.length + 1002 ≤ 140737488355328) :
    Calls Tryd.prog 35 #[.pointer (some ⟨bs, 0, none⟩), .string s] w fun e w' => e = .returned (.tuple #[]) ∧ St w' B true bh bs bb bp fb sep (l ++ strOf true s.data.toList) ∧ Below B w w' := by
  obtain ⟨c0, c1, c3, c4, c5, d0, p0, f3⟩ := h.cells
  have hm := hs.2.1
  have k33 := Lib.hid (writeByte_st h 34 (by omega))
  have HL := Lib.hid hlen
  have HW := Lib.hid hw
  clear h hm hw hlen
  go_enter Tryd.func35, Tryd.ntmps35
  go_wp2_with (first | (go_at_call 33; go_must (refine k33.out.mono ?_; rintro e w1 ⟨rfl, h1, hbel1⟩)))
  clear k33
  obtain ⟨v, hv, hown⟩ := h1.b
  have k46 := Lib.hid (escJSON_st h1.drew v hv.drew hown s hs (HW.out.below hbel1 hB0).drew hB0 (by have := HL.out; simp; omega))
  have e0 := (h1.cells).2.1
  have e1 : w1.cell? ⟨bb, 0, none⟩ = some v := hv.cell 0
  have H1 := Lib.hid hbel1
  clear h1 hv hown hbel1 c0 c1 c3 c4 c5 d0 p0 f3
  go_region_with ((go_at_call 46; go_must (refine k46.out.mono ?_; rintro e w2 ⟨A, n, c, rfl, g0, g1, g2, g3, g4⟩)))
  all_goals
    clear g0 g1 g2 e0 e1 k46
    generalize w2.setCell ⟨bb, 0, none⟩ (.slice A n c) = w3 at *
    have k33 := Lib.hid (writeByte_st g3 34 (by rw [len34]; have := HL.out; have := hs.2.1; omega))
    have f1 := (g3.cells).2.1
    have G4 := Lib.hid g4
    clear g3 g4
    go_wp2_with (first | (go_at_call 33; go_must (refine k33.out.mono ?_; rintro e w4 ⟨rfl, h4, hbel4⟩)))
    go_end0
    refine ⟨rfl, ?_, (H1.out.drew.trans G4.out).trans hbel4⟩
    simpa [strOf] using h4

theorem okS_size {s : ByteArray} (h : okS s) : s.data.toList.length ≤ 1000 := by rw [Array.length_toList]; exact h.2.1

/-- appendString, both ways. -/
theorem appendString_ok (h : St w B js bh bs bb bp fb sep l) (s : ByteArray) (hs : okS s) (hw : Safe w) (hB0 : 0 < B) (hlen : l.length + 1002 ≤ 140737488355328) :
    Calls Tryd.prog 35 #[.pointer (some ⟨bs, 0, none⟩), .string s] w fun e w' => e = .returned (.tuple #[]) ∧ St w' B js bh bs bb bp fb sep (l ++ strOf js s.data.toList) ∧ Below B w w' := by
  cases js
  · exact appendString_text h s hs hw hlen
  · exact appendString_json h s hs hw hB0 hlen

end
end Go.Proofs.YtcbmphomacbmmaaDoor
