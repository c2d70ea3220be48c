/-
  needsQuoting and appendEscapedJSONString at strings of letters, digits and signs that need no quoting: the first answers false, the second appends the string as it is. Conditions: safeSet holds what its initialiser lays; the bytes take at most 2^47.
-/
import Derived.Test.YtcbmphomacbmmaaDoorBase
namespace Go.Proofs.YtcbmphomacbmmaaDoor
open Go.RowKit

/-- a byte that neither handler quotes nor escapes. -/
def okB (c : Nat) : Prop := 33 ≤ c ∧ c < 127 ∧ c ≠ 34 ∧ c ≠ 61 ∧ c ≠ 92
def okS (s : ByteArray) : Prop := 0 < s.size ∧ s.size ≤ 1000 ∧ ∀ k (h : k < s.size), okB s[k].toNat
/-- safeSet (variable 0) at those bytes. -/
def Safe (w : World) : Prop := ∀ c, okB c → w.cell? ⟨0, c, none⟩ = some (.bool true)

theorem Safe.drew {w : World} (h : Safe w) : Safe w.drew := h
theorem Safe.below {w w' : World} {B : Nat} (h : Safe w) (hb : Below B w w') (hB : 0 < B) : Safe w' := fun c hc => (hb.cell (p := ⟨0, c, none⟩) hB).trans (h c hc)

set_option maxHeartbeats 1000000 in
theorem needsQuoting_ok (s : ByteArray) (w : World) (hs : okS s) (hw : Safe w) :
    Calls Tryd.prog 47 #[.string s] w fun e w' => e = .returned (.bool false) ∧ w = w' := by
  obtain ⟨h0, hm, hok⟩ := hs
  have hz : ((s.size : Int) == 0) = false := beq_eq_false_iff_ne.2 (by omega)
  go_enter Tryd.func47, Tryd.ntmps47
  go_wp2
  go_loop [3] (fun i => ∃ k : Nat, k ≤ s.size ∧ i = .int .i64 k) (fun i => s.size - (intOf i).toNat)
  case atStart => exact ⟨0, Nat.zero_le _, rfl⟩
  case round =>
    obtain ⟨k, hk, rfl⟩ := hrel
    by_cases hlt : k < s.size
    · have hc := hok k hlt
      have hcell := hw _ hc
      obtain ⟨c1, c2, c3, c4, c5⟩ := hc
      have d1 : ((s[k].toNat : Int) != 92) = true := by rw [bne_iff_ne]; omega
      have d2 : ((s[k].toNat : Int) == 32) = false := beq_eq_false_iff_ne.2 (by omega)
      have d3 : ((s[k].toNat : Int) == 61) = false := beq_eq_false_iff_ne.2 (by omega)
      have d4 : (s[k].toNat : Int) < 128 := by omega
      clear c3 c4 c5 hw hok
      go_wp2
      go_round
      case rel => exact ⟨k + 1, by omega, by go_num⟩
      case measure => simp [intOf]; omega
    · go_wp2
      go_ret
      exact ⟨rfl, rfl⟩

set_option maxRecDepth 100000 in
set_option maxHeartbeats 2000000 in
theorem escJSON_ok (s : ByteArray) (w : World) (hs : okS s) (hw : Safe w) (B : Nat) (v : Value) (l : List UInt8) (hown : w.ownsRow B 5 1 v l.length (bytesOf l)) (hB : B ≤ w.heap.size) (hB0 : 0 < B)
    (hlen : l.length + s.size ≤ 140737488355328) :
    Calls Tryd.prog 46 #[v, .string s] w fun e w' => ∃ v', e = .returned v' ∧ w'.ownsRow B 5 1 v' (l ++ s.data.toList).length (bytesOf (l ++ s.data.toList)) ∧ w.grownBy w' v.ownBlock := by
  obtain ⟨h0, hm, hok⟩ := hs
  obtain ⟨i0, hi, hz0, hz1, hz2⟩ := info_parts info5
  obtain ⟨A, c, rfl⟩ := own_form hown
  have hmf : ∀ (fn : Fn) (first cap : Array Value) (w : World), (Instr.makeFunc fn first cap).run Tryd.prog w = .ok (.func fn first cap) w := fun _ _ _ _ => rfl
  have HL := Lib.hid hlen
  clear hlen
  go_enter Tryd.func46, Tryd.ntmps46
  go_wp2
  go_loop [7, 8] (fun st i => st = .int .i64 0 ∧ ∃ k : Nat, k ≤ s.size ∧ i = .int .i64 k) (fun _ i => s.size - (intOf i).toNat)
  case atStart => exact ⟨rfl, 0, Nat.zero_le _, rfl⟩
  case round =>
    obtain ⟨rfl, k, hk, rfl⟩ := hrel
    by_cases hlt : k < s.size
    · have hc := hok k hlt
      have hcell : (w.alloc (.cells #[.slice A l.length c] 36)).cell? ⟨0, s[k].toNat, none⟩ = some (.bool true) := (World.cell?_alloc_lt w _ ⟨0, s[k].toNat, none⟩ (by show 0 < _; omega)).trans (hw _ hc)
      obtain ⟨c1, c2, c3, c4, c5⟩ := hc
      clear c3 c4 c5 hw hok
      go_wp2
      go_round
      case rel => exact ⟨rfl, k + 1, by omega, by go_num⟩
      case measure => simp [intOf]; omega
    · clear hok hw
      go_wp2_with (first | (at_builtin; go_must (refine Lib.wpList_append_own_string _ rfl _ _ _ _ rfl B 5 i0 Tryd.underlying36 Tryd.underlying9 hi hz0 hz1 hz2 _ l.length (bytesOf l) rfl (hown.alloc _) s rfl (by unfold maxLen; have := HL.out; omega) HL.out (by simp; omega) ?_)) | go_in)
      intro v' w1 hown' hg0 _
      obtain ⟨A', c', rfl⟩ := own_form hown'
      have hbx : Blk (w.alloc (.cells #[.slice A l.length c] 36)) w.heap.size 36 #[.slice A l.length c] := Blk.new _ _ _
      have hb1 := hbx.grown hg0 (own_blk_ne (hown.alloc _) hbx (by decide)).symm
      have hc1 : w1.cell? ⟨w.heap.size, 0, none⟩ = some (.slice A l.length c) := hb1.cell 0
      have hf1 : w1.frozen? ⟨w.heap.size, 0, none⟩ = false := hb1.frozen 0
      have hne := own_blk_ne hown' hb1 (by decide)
      have hg : w.grownBy (w1.setCell ⟨w.heap.size, 0, none⟩ (.slice A' (l.length + s.size) c')) (Value.slice A l.length c).ownBlock :=
        ⟨hg0.os, hg0.tape, hg0.output, by have := hg0.size; simp [World.setCell] at this ⊢; omega, fun k hk hn =>
          (Below.heap_setCell w1 _ _ k (by show k ≠ w.heap.size; omega)).trans ((hg0.block k (by simp; omega) hn).trans (Below.heap_alloc w _ k hk))⟩
      have ho : (w1.setCell ⟨w.heap.size, 0, none⟩ (.slice A' (l.length + s.size) c')).ownsRow B 5 1 (.slice A' (l.length + s.size) c') (l ++ s.data.toList).length (bytesOf (l ++ s.data.toList)) := by
        have h1 := hown'
        rw [strCells_bytesOf, ← bytesOf_append] at h1
        rw [show (l ++ s.data.toList).length = l.length + s.size by rw [List.length_append, Array.length_toList]; rfl]
        exact h1.kept (row := some w.heap.size) ⟨rfl, rfl, rfl, by simp [World.setCell], fun k _ hk => Below.heap_setCell w1 _ _ k (fun e => hk (by rw [e]))⟩ (.inr hne)
      have HO := Lib.hid ho
      have HG := Lib.hid hg
      clear ho hg hown' hg0 hown hb1 hbx hne hi hz0 hz1 hz2 hB hlt hk hm h0
      go_wp2
      go_end0
      go_wp2
      go_ret
      exact ⟨_, rfl, HO.out, HG.out⟩
end Go.Proofs.YtcbmphomacbmmaaDoor
