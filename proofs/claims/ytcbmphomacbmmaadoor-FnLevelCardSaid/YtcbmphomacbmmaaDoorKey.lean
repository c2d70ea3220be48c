/-
  appendKey at keys that need no quoting, no group open: what stands between, the key, a colon or an equals sign. Conditions: as of appendString.
-/
import Derived.Test.YtcbmphomacbmmaaDoorAppend
import Derived.Outline
namespace Go.Proofs.YtcbmphomacbmmaaDoor
open Go.RowKit
section
variable {w w' : World} {B bh bs bb bp : Nat} {js fb : Bool} {sep : ByteArray} {l l' : List UInt8}

/-- a key as it is written: what stands between, the key, a colon or an equals sign. -/
def keyOf (js : Bool) (sep : ByteArray) (s : List UInt8) : List UInt8 := sep.data.toList ++ strOf js s ++ [if js then 58 else 61]

theorem strOf_length (js : Bool) (s : List UInt8) : (strOf js s).length ≤ s.length + 2 := by
  unfold strOf
  cases js <;> simp

theorem key_len (l : List UInt8) (sep s : ByteArray) (js : Bool) (h1 : sep.size ≤ 1) (h2 : s.size ≤ 1000) :
    (l ++ sep.data.toList).length ≤ l.length + 1 ∧ (l ++ sep.data.toList ++ strOf js s.data.toList).length ≤ l.length + 1003 := by
  have e1 : sep.data.toList.length = sep.size := Array.length_toList
  have e2 : s.data.toList.length = s.size := Array.length_toList
  have := strOf_length js s.data.toList
  rw [List.length_append, List.length_append, List.length_append, e1]
  omega

set_option maxRecDepth 100000 in
set_option maxHeartbeats 2000000 in
theorem appendKey_ok (h : St w B js bh bs bb bp fb sep l) (hsep : sep.size ≤ 1) (s : ByteArray) (hs : okS s) (hw : Safe w) (hB0 : 0 < B) (hlen : l.length + 1010 ≤ 140737488355328) :
    Calls Tryd.prog 34 #[.pointer (some ⟨bs, 0, none⟩), .string s] w fun e w' => e = .returned (.tuple #[]) ∧ St w' B js bh bs bb bp fb (sepOf js) (l ++ keyOf js sep s.data.toList) ∧ Below B w w' := by
  obtain ⟨c0, c1, c3, c4, c5, d0, p0, f3⟩ := h.cells
  have k23 := Lib.hid (writeString_st h.drew sep (by omega))
  have HK := Lib.hid (key_len l sep s js hsep hs.2.1)
  have HL := Lib.hid hlen
  have HW := Lib.hid hw
  have HS := Lib.hid hs
  clear h hw hlen hs hsep
  cases js
  · go_enter Tryd.func34, Tryd.ntmps34
    go_wp2_with fail
    go_still_tail 8, (by kernel_rfl)
    clear c0 c1 c3 c4 c5 d0 p0 f3
    go_wp2_with (first | (go_at_call 23; go_must (refine k23.out.mono ?_; rintro e w1 ⟨rfl, h1, hbel1⟩; obtain ⟨c0, c1, c3, c4, c5, d0, p0, f3⟩ := h1.cells; have HB1 := Lib.hid hbel1; have k35 := Lib.hid (appendString_ok h1 s HS.out ((HW.out.drew).below hbel1 hB0) hB0 (by have := HL.out; have := HK.out.1; omega)); clear h1 hbel1 k23)) | (go_at_call 35; go_must (refine k35.out.mono ?_; rintro e w2 ⟨rfl, h2, hbel2⟩; clear c0 c1 c3 c4 c5 d0 p0 f3; obtain ⟨c0, c1, c3, c4, c5, d0, p0, f3⟩ := h2.cells; have HB2 := Lib.hid hbel2; clear k35 hbel2; have k33 := Lib.hid (writeByte_st h2 61 (by have := HL.out; have := HK.out.2; omega)); clear h2)) | (go_at_call 33; go_must (refine k33.out.mono ?_; rintro e w3 ⟨rfl, h3, hbel3⟩; clear c0 c1 c3 c4 c5 d0 p0 f3; obtain ⟨c0, c1, c3, c4, c5, d0, p0, f3⟩ := h3.cells; have HB3 := Lib.hid hbel3; have HS3 := Lib.hid (h3.setSep (sepOf false)); have k24 := Lib.hid (attrSep_any w3 bh false d0); clear k33 hbel3)) | (go_at_call 24; go_must (refine k24.out.mono ?_; rintro e w4 ⟨rfl, rfl⟩)))
    go_end0
    refine ⟨rfl, ?_, (((Below.refl B w).drew.trans HB1.out).trans HB2.out).trans (HB3.out.setCell (p := ⟨bs, 3, none⟩) h3.los _)⟩
    simpa [keyOf] using HS3.out
  · go_enter Tryd.func34, Tryd.ntmps34
    go_wp2_with fail
    go_still_tail 8, (by kernel_rfl)
    clear c0 c1 c3 c4 c5 d0 p0 f3
    go_wp2_with (first | (go_at_call 23; go_must (refine k23.out.mono ?_; rintro e w1 ⟨rfl, h1, hbel1⟩; obtain ⟨c0, c1, c3, c4, c5, d0, p0, f3⟩ := h1.cells; have HB1 := Lib.hid hbel1; have k35 := Lib.hid (appendString_ok h1 s HS.out ((HW.out.drew).below hbel1 hB0) hB0 (by have := HL.out; have := HK.out.1; omega)); clear h1 hbel1 k23)) | (go_at_call 35; go_must (refine k35.out.mono ?_; rintro e w2 ⟨rfl, h2, hbel2⟩; clear c0 c1 c3 c4 c5 d0 p0 f3; obtain ⟨c0, c1, c3, c4, c5, d0, p0, f3⟩ := h2.cells; have HB2 := Lib.hid hbel2; clear k35 hbel2; have k33 := Lib.hid (writeByte_st h2 58 (by have := HL.out; have := HK.out.2; omega)); clear h2)) | (go_at_call 33; go_must (refine k33.out.mono ?_; rintro e w3 ⟨rfl, h3, hbel3⟩; clear c0 c1 c3 c4 c5 d0 p0 f3; obtain ⟨c0, c1, c3, c4, c5, d0, p0, f3⟩ := h3.cells; have HB3 := Lib.hid hbel3; have HS3 := Lib.hid (h3.setSep (sepOf true)); have k24 := Lib.hid (attrSep_any w3 bh true d0); clear k33 hbel3)) | (go_at_call 24; go_must (refine k24.out.mono ?_; rintro e w4 ⟨rfl, rfl⟩)))
    go_end0
    refine ⟨rfl, ?_, (((Below.refl B w).drew.trans HB1.out).trans HB2.out).trans (HB3.out.setCell (p := ⟨bs, 3, none⟩) h3.los _)⟩
    simpa [keyOf] using HS3.out
end
end Go.Proofs.YtcbmphomacbmmaaDoor
