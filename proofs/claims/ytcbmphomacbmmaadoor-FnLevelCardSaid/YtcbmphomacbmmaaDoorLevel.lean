/-
  THE LAW FnLevel: for every level from -4 to 8, TextLine of a record with that level and the message a is level=<the level's name> msg=a; outside that range the law asks nothing. (And the two lines of the function works.)
  Conditions: none beyond the row's own: the listed variables hold what their initialisers lay (the card ties them to the text); unicode.PrintRanges is left open and never read.
-/
import Derived.Test.YtcbmphomacbmmaaDoorTop
namespace Go.Proofs.YtcbmphomacbmmaaDoor
open Go.RowKit

def Good (w : World) (e : Ending) (w' : World) : Prop := e = .returned (.bool true) ∧ Below w.heap.size w w'

theorem inRange_yes (n : Int) (h0 : -4 ≤ n) (h1 : n ≤ 8) (w : World) : Calls Tryd.prog 4 #[.int .i64 n] w fun e w' => e = .returned (.bool true) ∧ w = w' := by
  go_enter Tryd.func4, Tryd.ntmps4
  go_wp2
  go_ret
  exact ⟨rfl, rfl⟩
theorem inRange_no (n : Int) (h : n < -4 ∨ 8 < n) (w : World) : Calls Tryd.prog 4 #[.int .i64 n] w fun e w' => e = .returned (.bool false) ∧ w = w' := by
  rcases h with h | h
  · go_enter Tryd.func4, Tryd.ntmps4
    go_wp2
    go_ret
    exact ⟨rfl, rfl⟩
  · have h' : -4 ≤ n := by omega
    have hd : decide (n ≤ 8) = false := by simpa using h
    go_enter Tryd.func4, Tryd.ntmps4
    go_wp2
    go_ret
    exact ⟨rfl, rfl⟩

theorem walk_out (n : Int) (h : n < -4 ∨ 8 < n) (w : World) : Calls Tryd.prog 3 #[.int .i64 n] w (Good w) := by
  have k := Lib.hid (inRange_no n h w)
  clear h
  go_enter Tryd.func3, Tryd.ntmps3
  go_wp2_with (go_at_call 4; go_must (refine k.out.mono ?_; rintro e w1 ⟨rfl, rfl⟩))
  go_ret
  exact ⟨rfl, Below.refl _ _⟩

set_option maxRecDepth 100000 in
set_option maxHeartbeats 1000000 in
theorem walk_in (n : Int) (h0 : -4 ≤ n) (h1 : n ≤ 8) (w : World) (hs : Safe w) (hz : 0 < w.heap.size) : Calls Tryd.prog 3 #[.int .i64 n] w (Good w) := by
  have k4 := Lib.hid (inRange_yes n h0 h1 w)
  have k5 := Lib.hid (textLine_ok w n msgA h0 h1 msgA_ok hs hz)
  have HE := Lib.hid (textA_eq n h0 h1)
  have HS := Lib.hid hs
  have hl : (lvl n).size ≤ 1000 := (lvl_ok n h0 h1).2.1
  clear hs
  go_enter Tryd.func3, Tryd.ntmps3
  go_wp2_with (first | (go_at_call 4; go_must (refine k4.out.mono ?_; rintro e w1 ⟨rfl, rfl⟩)) | (go_at_call 5; go_must (refine k5.out.mono ?_; rintro e w1 ⟨rfl, hb1⟩; rw [HE.out]; have k6 := Lib.hid (level_any n h0 h1 w1); have HB1 := Lib.hid hb1; clear hb1)) | (go_at_call 6; go_must (refine k6.out.mono ?_; rintro e w2 ⟨rfl, hb2⟩; have hB2 := HB1.out.trans (hb2.mono HB1.out.size); have k7 := Lib.hid (works_ok w2 (HS.out.below hB2 hz) (by have := hB2.size; omega)); have HB2 := Lib.hid hB2; clear hb2 hB2)) | (go_at_call 7; go_must (refine k7.out.mono ?_; rintro e w3 ⟨rfl, hb3⟩)))
  go_ret
  exact ⟨rfl, HB2.out.trans (hb3.mono HB2.out.size)⟩

theorem walk (n : Int) (w : World) (hs : Safe w) (hz : 0 < w.heap.size) : Calls Tryd.prog 3 #[.int .i64 n] w (Good w) := by
  by_cases h0 : -4 ≤ n
  · by_cases h1 : n ≤ 8
    · exact walk_in n h0 h1 w hs hz
    · exact walk_out n (by omega) w
  · exact walk_out n (by omega) w
end Go.Proofs.YtcbmphomacbmmaaDoor
