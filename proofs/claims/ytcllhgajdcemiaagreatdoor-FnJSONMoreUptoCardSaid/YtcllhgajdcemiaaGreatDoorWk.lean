/-
  Base: Words for memory (a block known whole, a buffer of bytes) and the contracts of Buffer.WriteString, Buffer.WriteByte, attrSep. Conditions: the buffer's bytes and what is appended take at most 2^47 bytes.
  State: The handler's state in memory (h, buf, sep, prefix) and the contracts of the functions that write through it, for strings that need no quoting. Conditions: no group is open, no attribute was given before, and the line takes at most 2^47 bytes.
  Quote: needsQuoting and appendEscapedJSONString at strings of letters, digits and signs that need no quoting: the first answers false, the second appends the string as it is. Conditions: safeSet holds what its initialiser lays; the bytes take at most 2^47.
  Append: appendString and appendKey at strings that need no quoting, in text and in JSON. Conditions: no group is open (the prefix is empty), safeSet as its initialiser lays it, the line takes at most 2^47 bytes.
  Key: appendKey at keys that need no quoting, no group open: what stands between, the key, a colon or an equals sign. Conditions: as of appendString.
  Levels: Level.String and spec.Level at the thirteen levels from -4 to 8: both give the same name. No condition.
  Handle: newHandleState, free and appendNonBuiltIns without attributes, handle: the line of a record with a level from -4 to 8 and a short message that needs no quoting. Conditions: no step was taken, no attribute is given; safeSet as its initialiser lays it.
  Line: handle: the line of a record with a level from -4 to 8 and a short message that needs no quoting; line, TextLine, JSONLine on a log without steps and attributes. Conditions: safeSet as its initialiser lays it.
  Top: line, TextLine, JSONLine (the package's and the thin package's) on a log without steps and attributes. Conditions: level from -4 to 8, a short message that needs no quoting, safeSet as its initialiser lays it.
-/
import Derived.Test.YtcllhgajdcemiaaGreatDoorProg
import Derived.WalkKit
import Derived.Below
import Derived.Laws.OwnMore
import Derived.Deep.Draws
import Derived.Laws.Rows
import Derived.Lib.AppendStr
import Derived.Lib.Hide
import Derived.OwnWalk
import Derived.WalkSpells
import Derived.StillTailTactics
import Derived.Deep.RegionWith
import Derived.Deep.QuietTactic
import Derived.BigQuiet
import Derived.Outline
import Derived.Laws.BytesArg
import Derived.Defers
import Derived.Lib.SlBytesRow
import Derived.LoopTactic
import Derived.Deep.RegionHeld3
namespace Go.Proofs.YtcllhgajdcemiaaGreatDoor.wk
open Go.RowKit

/-! ## A block that is known whole (the kit's page extra-words.md, section 2) -/
def Blk (w : World) (g : Nat) (t : TypeId) (cs : Array Value) : Prop := w.heap[g]? = some (.cells cs t (0, 0))

section
variable {w w' : World} {g : Nat} {t : TypeId} {cs : Array Value}
theorem Blk.lt (h : Blk w g t cs) : g < w.heap.size := by
  rcases Nat.lt_or_ge g w.heap.size with hlt | hge
  · exact hlt
  · unfold Blk at h; rw [Array.getElem?_eq_none hge] at h; cases h
theorem Blk.cell (h : Blk w g t cs) (i : Nat) : w.cell? ⟨g, i, none⟩ = cs[i]? := cell_of_row w g i cs t (0, 0) h
theorem Blk.frozen (h : Blk w g t cs) (i : Nat) : w.frozen? ⟨g, i, none⟩ = false := by
  unfold Blk at h
  simp [World.frozen?, h]
theorem Blk.new (w : World) (t : TypeId) (cs : Array Value) : Blk (w.alloc (.cells cs t)) w.heap.size t cs := heap_alloc_new w _
theorem Blk.drew (h : Blk w g t cs) : Blk w.drew g t cs := h
theorem Blk.drewN (h : Blk w g t cs) (n : Nat) : Blk (w.drewN n) g t cs := h
theorem Blk.alloc (h : Blk w g t cs) (o : Obj) : Blk (w.alloc o) g t cs := (Below.heap_alloc w o g h.lt).trans h
theorem Blk.set_ (h : Blk w g t cs) (i : Nat) (u : Value) : Blk (w.setCell ⟨g, i, none⟩ u) g t (cs.setIfInBounds i u) := by
  unfold Blk at h ⊢
  simp [World.setCell, Array.getElem?_modify, h]
theorem Blk.far (h : Blk w g t cs) {p : Addr} (hp : g ≠ p.block) (u : Value) : Blk (w.setCell p u) g t cs := (Below.heap_setCell w p u g hp).trans h
theorem Blk.below {B : Nat} (h : Blk w g t cs) (hb : Below B w w') (hg : g < B) : Blk w' g t cs := (hb.block g hg).trans h
theorem Blk.grown {row : Option Nat} (h : Blk w g t cs) (hb : w.grownBy w' row) (hg : some g ≠ row) : Blk w' g t cs := (hb.block g h.lt hg).trans h
theorem Blk.ne_ {g' : Nat} {t' : TypeId} {cs' : Array Value} (h : Blk w g t cs) (h' : Blk w g' t' cs') (hne : t ≠ t') : g ≠ g' := by
  rintro rfl
  unfold Blk at h h'
  rw [h] at h'
  injection h' with h'
  injection h' with _ ht
  exact hne ht
theorem own_blk_ne {base : Nat} {e : TypeId} {size n : Nat} {v : Value} {xs : List Value} (h : w.ownsRow base e size v n xs) (hg : Blk w g t cs) (hne : e ≠ t) : v.ownBlock ≠ some g := by
  rcases h.2 with ⟨rfl, _⟩ | ⟨g', cap, cur, rfl, _, hh, _⟩
  · simp [Value.ownBlock]
  · intro he
    have : g' = g := by simpa [Value.ownBlock] using he
    subst this
    exact Blk.ne_ (t := e) hh hg hne rfl
end

theorem own_form {w : World} {base : Nat} {e : TypeId} {size n : Nat} {v : Value} {xs : List Value} (h : w.ownsRow base e size v n xs) : ∃ A c, v = .slice A n c := by
  rcases h.2 with ⟨rfl, rfl⟩ | ⟨g, cap, cur, rfl, _⟩
  · exact ⟨_, _, rfl⟩
  · exact ⟨_, _, rfl⟩

/-! ## The buffer of bytes -/
def bytesOf (l : List UInt8) : List Value := l.map fun b => Value.int .u8 b.toNat
theorem bytesOf_append (a b : List UInt8) : bytesOf (a ++ b) = bytesOf a ++ bytesOf b := by simp [bytesOf]
theorem bytesOf_length (a : List UInt8) : (bytesOf a).length = a.length := by simp [bytesOf]
theorem strCells_bytesOf (s : ByteArray) : Lib.strCells s = bytesOf s.data.toList := rfl

/-- the variable at block bb (type Buffer, 44) holds a slice that owns the bytes l, in a row from block B on. -/
def Buf (w : World) (B bb : Nat) (l : List UInt8) : Prop := ∃ v, Blk w bb 65 #[v] ∧ w.ownsRow B 5 1 v l.length (bytesOf l)

theorem info5 : (Tryz.prog.info? 5).map (fun i => (i.zero, i.size, i.bytes)) = some (some (.int .u8 0), 1, 1) := by kernel_rfl

/-- what a write to the buffer leaves: the world w1 (new blocks, the row) with the new slice stored. -/
def Wrote (w : World) (B bb : Nat) (v : Value) (l : List UInt8) (w' : World) : Prop :=
  ∃ w1 v', w' = w1.setCell ⟨bb, 0, none⟩ v' ∧ w.grownBy w1 v.ownBlock ∧ w1.ownsRow B 5 1 v' l.length (bytesOf l)

set_option maxHeartbeats 400000 in
theorem writeString_any (w : World) (B bb : Nat) (v : Value) (l : List UInt8) (s : ByteArray) (hb : Blk w bb 65 #[v]) (hown : w.ownsRow B 5 1 v l.length (bytesOf l)) (hB : B ≤ w.heap.size)
    (hlen : l.length + s.size ≤ 140737488355328) :
    Calls Tryz.prog 42 #[.pointer (some ⟨bb, 0, none⟩), .string s] w fun e w' => e = .returned (.tuple #[.int .i64 s.size, .nilIface]) ∧ Wrote w B bb v (l ++ s.data.toList) w' := by
  obtain ⟨i0, hi, hz0, hz1, hz2⟩ := info_parts info5
  have hc : w.cell? ⟨bb, 0, none⟩ = some v := hb.cell 0
  go_enter Tryz.func42, Tryz.ntmps42
  go_wp2_with (at_builtin; go_must (refine Lib.wpList_append_own_string _ rfl _ _ _ _ rfl B 5 i0 Tryz.underlying65 Tryz.underlying9 hi hz0 hz1 hz2 v l.length (bytesOf l) rfl hown s rfl (by unfold maxLen; omega) hlen hB ?_))
  intro v' w1 hown' hg _
  obtain ⟨A', c', rfl⟩ := own_form hown'
  have hb1 : Blk w1 bb 65 #[v] := hb.grown hg (own_blk_ne hown hb (by decide)).symm
  have hc1 : w1.cell? ⟨bb, 0, none⟩ = some v := hb1.cell 0
  have hf1 : w1.frozen? ⟨bb, 0, none⟩ = false := hb1.frozen 0
  have HO := Lib.hid hown'
  have HG := Lib.hid hg
  clear hown' hg hown hb hb1 hc hlen hB hi hz0 hz1 hz2
  go_wp2
  go_ret2
  refine ⟨rfl, w1, _, rfl, HG.out, ?_⟩
  have := HO.out
  rw [strCells_bytesOf, ← bytesOf_append] at this
  rw [show (l ++ s.data.toList).length = l.length + s.size by rw [List.length_append, Array.length_toList]; rfl]
  exact this

set_option maxHeartbeats 400000 in
theorem writeByte_any (w : World) (B bb : Nat) (v : Value) (l : List UInt8) (c : UInt8) (hb : Blk w bb 65 #[v]) (hown : w.ownsRow B 5 1 v l.length (bytesOf l)) (hB : B ≤ w.heap.size)
    (hlen : l.length + 1 ≤ 140737488355328) :
    Calls Tryz.prog 52 #[.pointer (some ⟨bb, 0, none⟩), .int .u8 c.toNat] w fun e w' => e = .returned .nilIface ∧ Wrote w B bb v (l ++ [c]) w' := by
  obtain ⟨i0, hi, hz0, hz1, hz2⟩ := info_parts info5
  have hc : w.cell? ⟨bb, 0, none⟩ = some v := hb.cell 0
  go_enter Tryz.func52, Tryz.ntmps52
  go_wp2_with (at_builtin; go_must (refine wpList_append_own _ rfl _ _ 65 rfl B 5 i0 (.int .u8 0) 1 1 Tryz.underlying65 hi hz0 hz1 hz2 rfl (by decide) v l.length (bytesOf l) rfl (hown.alloc _) ⟨w.heap.size, 0, none⟩ 1 1 [.int .u8 c.toNat] rfl rfl ?c1 ?c2 ?c3 ?c4 ?c5 ?_))
  case c1 =>
    intro j u hj
    match j, hj with
    | 0, hj => simp at hj; subst hj; simp [Addr.add]
  case c2 => intro u hu; simp at hu; subst hu; rfl
  case c3 => unfold maxLen; omega
  case c4 => omega
  case c5 => simp; omega
  intro v' w1 hown' hg0 _
  have hg : w.grownBy w1 v.ownBlock := ⟨hg0.os, hg0.tape, hg0.output, Nat.le_trans (by simp) hg0.size, fun k hk hne => (hg0.block k (by simp; omega) hne).trans (Below.heap_alloc w _ k hk)⟩
  obtain ⟨A', c', rfl⟩ := own_form hown'
  have hb1 : Blk w1 bb 65 #[v] := hb.grown hg (own_blk_ne hown hb (by decide)).symm
  have hc1 : w1.cell? ⟨bb, 0, none⟩ = some v := hb1.cell 0
  have hf1 : w1.frozen? ⟨bb, 0, none⟩ = false := hb1.frozen 0
  have HO := Lib.hid hown'
  have HG := Lib.hid hg
  clear hown' hg hg0 hown hb hb1 hc hlen hB hi hz0 hz1 hz2
  go_wp2
  go_ret
  refine ⟨rfl, w1, _, rfl, HG.out, ?_⟩
  have := HO.out
  rw [List.length_append, bytesOf_append]
  exact this
end Go.Proofs.YtcllhgajdcemiaaGreatDoor.wk

namespace Go.Proofs.YtcllhgajdcemiaaGreatDoor.wk
open Go.RowKit

theorem own_set {w : World} {base : Nat} {e : TypeId} {size n : Nat} {v : Value} {xs : List Value} (h : w.ownsRow base e size v n xs) {p : Addr} (hne : v.ownBlock ≠ some p.block) (u : Value) :
    (w.setCell p u).ownsRow base e size v n xs :=
  h.kept (row := some p.block) ⟨rfl, rfl, rfl, by simp [World.setCell], fun k _ hk => Below.heap_setCell w p u k (fun e => hk (by rw [e]))⟩ (.inr hne)

structure St (w : World) (B : Nat) (js : Bool) (bh bs bb bp : Nat) (fb : Bool) (sep : ByteArray) (l : List UInt8) : Prop where
  s : Blk w bs 87 #[.pointer (some ⟨bh, 0, none⟩), .pointer (some ⟨bb, 0, none⟩), .bool fb, .string sep, .pointer (some ⟨bp, 0, none⟩), .pointer none]
  h : Blk w bh 68 #[.bool js, .slice none 0 0, .string ⟨#[]⟩, .slice none 0 0, .int .i64 0]
  p : Blk w bp 65 #[.slice none 0 0]
  b : Buf w B bb l
  ne : bb ≠ bp
  los : B ≤ bs
  lob : B ≤ bb
  hz : B ≤ w.heap.size

section
variable {w w' : World} {B bh bs bb bp : Nat} {js fb : Bool} {sep : ByteArray} {l l' : List UInt8}

theorem Wrote.st {v : Value} (h : St w B js bh bs bb bp fb sep l) (hv : Blk w bb 65 #[v]) (hown : w.ownsRow B 5 1 v l.length (bytesOf l)) (hW : Wrote w B bb v l' w') :
    St w' B js bh bs bb bp fb sep l' ∧ Below B w w' := by
  obtain ⟨w1, v', rfl, hg, ho⟩ := hW
  have hs1 := h.s.grown hg (own_blk_ne hown h.s (by decide)).symm
  have hh1 := h.h.grown hg (own_blk_ne hown h.h (by decide)).symm
  have hp1 := h.p.grown hg (own_blk_ne hown h.p (by decide)).symm
  have hb1 := hv.grown hg (own_blk_ne hown hv (by decide)).symm
  have hbel : Below B w (w1.setCell ⟨bb, 0, none⟩ v') := ((Below.refl B w).grown hg h.hz (fun k hk => (hown.lt k hk).1)).setCell (p := ⟨bb, 0, none⟩) h.lob v'
  refine ⟨⟨hs1.far (h.s.ne_ hv (by decide)) v', hh1.far (h.h.ne_ hv (by decide)) v', hp1.far (p := ⟨bb, 0, none⟩) (Ne.symm h.ne) v', ⟨v', ?_, own_set ho (own_blk_ne ho hb1 (by decide)) v'⟩, h.ne, h.los, h.lob, Nat.le_trans h.hz hbel.size⟩, hbel⟩
  have := hb1.set_ 0 v'
  simpa using this

theorem St.drew (h : St w B js bh bs bb bp fb sep l) : St w.drew B js bh bs bb bp fb sep l := ⟨h.s, h.h, h.p, h.b, h.ne, h.los, h.lob, h.hz⟩
theorem St.drewN (h : St w B js bh bs bb bp fb sep l) (n : Nat) : St (w.drewN n) B js bh bs bb bp fb sep l := ⟨h.s, h.h, h.p, h.b, h.ne, h.los, h.lob, h.hz⟩

theorem St.setSep (h : St w B js bh bs bb bp fb sep l) (sep' : ByteArray) : St (w.setCell ⟨bs, 3, none⟩ (.string sep')) B js bh bs bb bp fb sep' l := by
  obtain ⟨v, hv, hown⟩ := h.b
  refine ⟨?_, h.h.far (p := ⟨bs, 3, none⟩) (h.h.ne_ h.s (by decide)) _, h.p.far (p := ⟨bs, 3, none⟩) (h.p.ne_ h.s (by decide)) _, ⟨v, hv.far (p := ⟨bs, 3, none⟩) (hv.ne_ h.s (by decide)) _, own_set hown (own_blk_ne hown h.s (by decide)) _⟩, h.ne, h.los, h.lob, by simpa [World.setCell] using h.hz⟩
  have := h.s.set_ 3 (.string sep')
  simpa using this

theorem writeString_st (h : St w B js bh bs bb bp fb sep l) (s : ByteArray) (hlen : l.length + s.size ≤ 140737488355328) :
    Calls Tryz.prog 42 #[.pointer (some ⟨bb, 0, none⟩), .string s] w fun e w' => e = .returned (.tuple #[.int .i64 s.size, .nilIface]) ∧ St w' B js bh bs bb bp fb sep (l ++ s.data.toList) ∧ Below B w w' := by
  obtain ⟨v, hv, hown⟩ := h.b
  exact (writeString_any w B bb v l s hv hown h.hz hlen).mono fun e w' ⟨he, hW⟩ => ⟨he, hW.st h hv hown⟩
theorem writeByte_st (h : St w B js bh bs bb bp fb sep l) (c : UInt8) (hlen : l.length + 1 ≤ 140737488355328) :
    Calls Tryz.prog 52 #[.pointer (some ⟨bb, 0, none⟩), .int .u8 c.toNat] w fun e w' => e = .returned .nilIface ∧ St w' B js bh bs bb bp fb sep (l ++ [c]) ∧ Below B w w' := by
  obtain ⟨v, hv, hown⟩ := h.b
  exact (writeByte_any w B bb v l c hv hown h.hz hlen).mono fun e w' ⟨he, hW⟩ => ⟨he, hW.st h hv hown⟩
end

def sepOf (js : Bool) : ByteArray := if js then ⟨#[44]⟩ else ⟨#[32]⟩
theorem attrSep_any (w : World) (bh : Nat) (js : Bool) (h0 : w.cell? ⟨bh, 0, none⟩ = some (.bool js)) :
    Calls Tryz.prog 43 #[.pointer (some ⟨bh, 0, none⟩)] w fun e w' => e = .returned (.string (sepOf js)) ∧ w = w' := by
  cases js
  · go_enter Tryz.func43, Tryz.ntmps43
    go_wp2
    go_ret
    exact ⟨rfl, rfl⟩
  · go_enter Tryz.func43, Tryz.ntmps43
    go_wp2
    go_ret
    exact ⟨rfl, rfl⟩
end Go.Proofs.YtcllhgajdcemiaaGreatDoor.wk

namespace Go.Proofs.YtcllhgajdcemiaaGreatDoor.wk
open Go.RowKit

/-- a byte that neither handler quotes nor escapes. -/
def okB (c : Nat) : Prop := 33 ≤ c ∧ c < 127 ∧ c ≠ 34 ∧ c ≠ 61 ∧ c ≠ 92
def okS (s : ByteArray) : Prop := 0 < s.size ∧ s.size ≤ 1000 ∧ ∀ k (h : k < s.size), okB s[k].toNat
/-- safeSet (variable 0) at those bytes. -/
def Safe (w : World) : Prop := ∀ c, okB c → w.cell? ⟨0, c, none⟩ = some (.bool true)

theorem Safe.drew {w : World} (h : Safe w) : Safe w.drew := h
theorem Safe.below {w w' : World} {B : Nat} (h : Safe w) (hb : Below B w w') (hB : 0 < B) : Safe w' := fun c hc => (hb.cell (p := ⟨0, c, none⟩) hB).trans (h c hc)

set_option maxHeartbeats 1000000 in
theorem needsQuoting_ok (s : ByteArray) (w : World) (hs : okS s) (hw : Safe w) :
    Calls Tryz.prog 67 #[.string s] w fun e w' => e = .returned (.bool false) ∧ w = w' := by
  obtain ⟨h0, hm, hok⟩ := hs
  have hz : ((s.size : Int) == 0) = false := beq_eq_false_iff_ne.2 (by omega)
  go_enter Tryz.func67, Tryz.ntmps67
  go_wp2
  go_loop [3] (fun i => ∃ k : Nat, k ≤ s.size ∧ i = .int .i64 k) (fun i => s.size - (intOf i).toNat)
  case atStart => exact ⟨0, Nat.zero_le _, rfl⟩
  case round =>
    obtain ⟨k, hk, rfl⟩ := hrel
    by_cases hlt : k < s.size
    · have hc := hok k hlt
      have hcell := hw _ hc
      obtain ⟨c1, c2, c3, c4, c5⟩ := hc
      have d1 : ((s[k].toNat : Int) != 92) = true := by rw [bne_iff_ne]; omega
      have d2 : ((s[k].toNat : Int) == 32) = false := beq_eq_false_iff_ne.2 (by omega)
      have d3 : ((s[k].toNat : Int) == 61) = false := beq_eq_false_iff_ne.2 (by omega)
      have d4 : (s[k].toNat : Int) < 128 := by omega
      clear c3 c4 c5 hw hok
      go_wp2
      go_round
      case rel => exact ⟨k + 1, by omega, by go_num⟩
      case measure => simp [intOf]; omega
    · go_wp2
      go_ret
      exact ⟨rfl, rfl⟩

set_option maxRecDepth 100000 in
set_option maxHeartbeats 2000000 in
theorem escJSON_ok (s : ByteArray) (w : World) (hs : okS s) (hw : Safe w) (B : Nat) (v : Value) (l : List UInt8) (hown : w.ownsRow B 5 1 v l.length (bytesOf l)) (hB : B ≤ w.heap.size) (hB0 : 0 < B)
    (hlen : l.length + s.size ≤ 140737488355328) :
    Calls Tryz.prog 66 #[v, .string s] w fun e w' => ∃ v', e = .returned v' ∧ w'.ownsRow B 5 1 v' (l ++ s.data.toList).length (bytesOf (l ++ s.data.toList)) ∧ w.grownBy w' v.ownBlock := by
  obtain ⟨h0, hm, hok⟩ := hs
  obtain ⟨i0, hi, hz0, hz1, hz2⟩ := info_parts info5
  obtain ⟨A, c, rfl⟩ := own_form hown
  have hmf : ∀ (fn : Fn) (first cap : Array Value) (w : World), (Instr.makeFunc fn first cap).run Tryz.prog w = .ok (.func fn first cap) w := fun _ _ _ _ => rfl
  have HL := Lib.hid hlen
  clear hlen
  go_enter Tryz.func66, Tryz.ntmps66
  go_wp2
  go_loop [7, 8] (fun st i => st = .int .i64 0 ∧ ∃ k : Nat, k ≤ s.size ∧ i = .int .i64 k) (fun _ i => s.size - (intOf i).toNat)
  case atStart => exact ⟨rfl, 0, Nat.zero_le _, rfl⟩
  case round =>
    obtain ⟨rfl, k, hk, rfl⟩ := hrel
    by_cases hlt : k < s.size
    · have hc := hok k hlt
      have hcell : (w.alloc (.cells #[.slice A l.length c] 60)).cell? ⟨0, s[k].toNat, none⟩ = some (.bool true) := (World.cell?_alloc_lt w _ ⟨0, s[k].toNat, none⟩ (by show 0 < _; omega)).trans (hw _ hc)
      obtain ⟨c1, c2, c3, c4, c5⟩ := hc
      clear c3 c4 c5 hw hok
      go_wp2
      go_round
      case rel => exact ⟨rfl, k + 1, by omega, by go_num⟩
      case measure => simp [intOf]; omega
    · clear hok hw
      go_wp2_with (first | (at_builtin; go_must (refine Lib.wpList_append_own_string _ rfl _ _ _ _ rfl B 5 i0 Tryz.underlying60 Tryz.underlying9 hi hz0 hz1 hz2 _ l.length (bytesOf l) rfl (hown.alloc _) s rfl (by unfold maxLen; have := HL.out; omega) HL.out (by simp; omega) ?_)) | go_in)
      intro v' w1 hown' hg0 _
      obtain ⟨A', c', rfl⟩ := own_form hown'
      have hbx : Blk (w.alloc (.cells #[.slice A l.length c] 60)) w.heap.size 60 #[.slice A l.length c] := Blk.new _ _ _
      have hb1 := hbx.grown hg0 (own_blk_ne (hown.alloc _) hbx (by decide)).symm
      have hc1 : w1.cell? ⟨w.heap.size, 0, none⟩ = some (.slice A l.length c) := hb1.cell 0
      have hf1 : w1.frozen? ⟨w.heap.size, 0, none⟩ = false := hb1.frozen 0
      have hne := own_blk_ne hown' hb1 (by decide)
      have hg : w.grownBy (w1.setCell ⟨w.heap.size, 0, none⟩ (.slice A' (l.length + s.size) c')) (Value.slice A l.length c).ownBlock :=
        ⟨hg0.os, hg0.tape, hg0.output, by have := hg0.size; simp [World.setCell] at this ⊢; omega, fun k hk hn =>
          (Below.heap_setCell w1 _ _ k (by show k ≠ w.heap.size; omega)).trans ((hg0.block k (by simp; omega) hn).trans (Below.heap_alloc w _ k hk))⟩
      have ho : (w1.setCell ⟨w.heap.size, 0, none⟩ (.slice A' (l.length + s.size) c')).ownsRow B 5 1 (.slice A' (l.length + s.size) c') (l ++ s.data.toList).length (bytesOf (l ++ s.data.toList)) := by
        have h1 := hown'
        rw [strCells_bytesOf, ← bytesOf_append] at h1
        rw [show (l ++ s.data.toList).length = l.length + s.size by rw [List.length_append, Array.length_toList]; rfl]
        exact h1.kept (row := some w.heap.size) ⟨rfl, rfl, rfl, by simp [World.setCell], fun k _ hk => Below.heap_setCell w1 _ _ k (fun e => hk (by rw [e]))⟩ (.inr hne)
      have HO := Lib.hid ho
      have HG := Lib.hid hg
      clear ho hg hown' hg0 hown hb1 hbx hne hi hz0 hz1 hz2 hB hlt hk hm h0
      go_wp2
      go_end0
      go_wp2
      go_ret
      exact ⟨_, rfl, HO.out, HG.out⟩
end Go.Proofs.YtcllhgajdcemiaaGreatDoor.wk

namespace Go.Proofs.YtcllhgajdcemiaaGreatDoor.wk
open Go.RowKit

/-- a text as the handler writes it. -/
def strOf (js : Bool) (s : List UInt8) : List UInt8 := if js then 34 :: (s ++ [34]) else s

section
variable {w w' : World} {B bh bs bb bp : Nat} {js fb : Bool} {sep : ByteArray} {l l' : List UInt8}

theorem len34 (l : List UInt8) (s : ByteArray) : (l ++ [34] ++ s.data.toList).length = l.length + 1 + s.size := by
  rw [List.length_append, List.length_append, Array.length_toList]
  rfl

/-- the loads of a state, for the walk. -/
theorem St.cells (h : St w B js bh bs bb bp fb sep l) :
    w.cell? ⟨bs, 0, none⟩ = some (.pointer (some ⟨bh, 0, none⟩)) ∧ w.cell? ⟨bs, 1, none⟩ = some (.pointer (some ⟨bb, 0, none⟩)) ∧ w.cell? ⟨bs, 3, none⟩ = some (.string sep) ∧
    w.cell? ⟨bs, 4, none⟩ = some (.pointer (some ⟨bp, 0, none⟩)) ∧ w.cell? ⟨bs, 5, none⟩ = some (.pointer none) ∧ w.cell? ⟨bh, 0, none⟩ = some (.bool js) ∧ w.cell? ⟨bp, 0, none⟩ = some (.slice none 0 0) ∧
    w.frozen? ⟨bs, 3, none⟩ = false :=
  ⟨h.s.cell 0, h.s.cell 1, h.s.cell 3, h.s.cell 4, h.s.cell 5, h.h.cell 0, h.p.cell 0, h.s.frozen 3⟩

set_option maxHeartbeats 1000000 in
theorem appendString_text (h : St w B false bh bs bb bp fb sep l) (s : ByteArray) (hs : okS s) (hw : Safe w) (hlen : l.length + 1002 ≤ 140737488355328) :
    Calls Tryz.prog 54 #[.pointer (some ⟨bs, 0, none⟩), .string s] w fun e w' => e = .returned (.tuple #[]) ∧ St w' B false bh bs bb bp fb sep (l ++ s.data.toList) ∧ Below B w w' := by
  obtain ⟨c0, c1, c3, c4, c5, d0, p0, f3⟩ := h.cells
  have hm := hs.2.1
  have k47 := Lib.hid (needsQuoting_ok s w hs hw)
  have k23 := Lib.hid (writeString_st h s (by omega))
  clear hs hw h hlen hm
  go_enter Tryz.func54, Tryz.ntmps54
  go_wp2_with (first | (go_at_call 67; go_must (refine k47.out.mono ?_; rintro e w' ⟨rfl, rfl⟩)) | (go_at_call 42; go_must (refine k23.out.mono ?_; rintro e w' ⟨rfl, hst, hbel⟩)))
  go_end0
  exact ⟨rfl, hst, hbel⟩

/-- appendEscapedJSONString on the state's own buffer: what the walk needs behind it, and the state once the result is stored. -/
theorem escJSON_st (h : St w B js bh bs bb bp fb sep l) (v : Value) (hv : Blk w bb 65 #[v]) (hown : w.ownsRow B 5 1 v l.length (bytesOf l)) (s : ByteArray) (hs : okS s) (hw : Safe w) (hB0 : 0 < B)
    (hlen : l.length + 1000 ≤ 140737488355328) :
    Calls Tryz.prog 66 #[v, .string s] w fun e w' => ∃ A n c, e = .returned (.slice A n c) ∧ w'.cell? ⟨bs, 1, none⟩ = some (.pointer (some ⟨bb, 0, none⟩)) ∧ w'.cell? ⟨bb, 0, none⟩ = some v ∧ w'.frozen? ⟨bb, 0, none⟩ = false ∧
      St (w'.setCell ⟨bb, 0, none⟩ (.slice A n c)) B js bh bs bb bp fb sep (l ++ s.data.toList) ∧ Below B w (w'.setCell ⟨bb, 0, none⟩ (.slice A n c)) := by
  have hm := hs.2.1
  refine (escJSON_ok s w hs hw B v l hown h.hz hB0 (by omega)).mono ?_
  rintro e w1 ⟨v', rfl, ho, hg⟩
  obtain ⟨A', c', rfl⟩ := own_form ho
  have hs1 := h.s.grown hg (own_blk_ne hown h.s (by decide)).symm
  have hb1 := hv.grown hg (own_blk_ne hown hv (by decide)).symm
  have hst := Wrote.st h hv hown ⟨w1, _, rfl, hg, ho⟩
  exact ⟨_, _, _, rfl, hs1.cell 1, hb1.cell 0, hb1.frozen 0, hst.1, hst.2⟩

set_option maxRecDepth 100000 in
set_option maxHeartbeats 2000000 in
theorem appendString_json (h : St w B true bh bs bb bp fb sep l) (s : ByteArray) (hs : okS s) (hw : Safe w) (hB0 : 0 < B) (hlen : l.length + 1002 ≤ 140737488355328) :
    Calls Tryz.prog 54 #[.pointer (some ⟨bs, 0, none⟩), .string s] w fun e w' => e = .returned (.tuple #[]) ∧ St w' B true bh bs bb bp fb sep (l ++ strOf true s.data.toList) ∧ Below B w w' := by
  obtain ⟨c0, c1, c3, c4, c5, d0, p0, f3⟩ := h.cells
  have hm := hs.2.1
  have k33 := Lib.hid (writeByte_st h 34 (by omega))
  have HL := Lib.hid hlen
  have HW := Lib.hid hw
  clear h hm hw hlen
  go_enter Tryz.func54, Tryz.ntmps54
  go_wp2_with (first | (go_at_call 52; go_must (refine k33.out.mono ?_; rintro e w1 ⟨rfl, h1, hbel1⟩)))
  clear k33
  obtain ⟨v, hv, hown⟩ := h1.b
  have k46 := Lib.hid (escJSON_st h1.drew v hv.drew hown s hs (HW.out.below hbel1 hB0).drew hB0 (by have := HL.out; simp; omega))
  have e0 := (h1.cells).2.1
  have e1 : w1.cell? ⟨bb, 0, none⟩ = some v := hv.cell 0
  have H1 := Lib.hid hbel1
  clear h1 hv hown hbel1 c0 c1 c3 c4 c5 d0 p0 f3
  go_region_with ((go_at_call 66; go_must (refine k46.out.mono ?_; rintro e w2 ⟨A, n, c, rfl, g0, g1, g2, g3, g4⟩)))
  all_goals
    clear g0 g1 g2 e0 e1 k46
    generalize w2.setCell ⟨bb, 0, none⟩ (.slice A n c) = w3 at *
    have k33 := Lib.hid (writeByte_st g3 34 (by rw [len34]; have := HL.out; have := hs.2.1; omega))
    have f1 := (g3.cells).2.1
    have G4 := Lib.hid g4
    clear g3 g4
    go_wp2_with (first | (go_at_call 52; go_must (refine k33.out.mono ?_; rintro e w4 ⟨rfl, h4, hbel4⟩)))
    go_end0
    refine ⟨rfl, ?_, (H1.out.drew.trans G4.out).trans hbel4⟩
    simpa [strOf] using h4

theorem okS_size {s : ByteArray} (h : okS s) : s.data.toList.length ≤ 1000 := by rw [Array.length_toList]; exact h.2.1

/-- appendString, both ways. -/
theorem appendString_ok (h : St w B js bh bs bb bp fb sep l) (s : ByteArray) (hs : okS s) (hw : Safe w) (hB0 : 0 < B) (hlen : l.length + 1002 ≤ 140737488355328) :
    Calls Tryz.prog 54 #[.pointer (some ⟨bs, 0, none⟩), .string s] w fun e w' => e = .returned (.tuple #[]) ∧ St w' B js bh bs bb bp fb sep (l ++ strOf js s.data.toList) ∧ Below B w w' := by
  cases js
  · exact appendString_text h s hs hw hlen
  · exact appendString_json h s hs hw hB0 hlen

end
end Go.Proofs.YtcllhgajdcemiaaGreatDoor.wk

namespace Go.Proofs.YtcllhgajdcemiaaGreatDoor.wk
open Go.RowKit
section
variable {w w' : World} {B bh bs bb bp : Nat} {js fb : Bool} {sep : ByteArray} {l l' : List UInt8}

/-- a key as it is written: what stands between, the key, a colon or an equals sign. -/
def keyOf (js : Bool) (sep : ByteArray) (s : List UInt8) : List UInt8 := sep.data.toList ++ strOf js s ++ [if js then 58 else 61]

theorem strOf_length (js : Bool) (s : List UInt8) : (strOf js s).length ≤ s.length + 2 := by
  unfold strOf
  cases js <;> simp

theorem key_len (l : List UInt8) (sep s : ByteArray) (js : Bool) (h1 : sep.size ≤ 1) (h2 : s.size ≤ 1000) :
    (l ++ sep.data.toList).length ≤ l.length + 1 ∧ (l ++ sep.data.toList ++ strOf js s.data.toList).length ≤ l.length + 1003 := by
  have e1 : sep.data.toList.length = sep.size := Array.length_toList
  have e2 : s.data.toList.length = s.size := Array.length_toList
  have := strOf_length js s.data.toList
  rw [List.length_append, List.length_append, List.length_append, e1]
  omega

set_option maxRecDepth 100000 in
set_option maxHeartbeats 2000000 in
theorem appendKey_ok (h : St w B js bh bs bb bp fb sep l) (hsep : sep.size ≤ 1) (s : ByteArray) (hs : okS s) (hw : Safe w) (hB0 : 0 < B) (hlen : l.length + 1010 ≤ 140737488355328) :
    Calls Tryz.prog 53 #[.pointer (some ⟨bs, 0, none⟩), .string s] w fun e w' => e = .returned (.tuple #[]) ∧ St w' B js bh bs bb bp fb (sepOf js) (l ++ keyOf js sep s.data.toList) ∧ Below B w w' := by
  obtain ⟨c0, c1, c3, c4, c5, d0, p0, f3⟩ := h.cells
  have k23 := Lib.hid (writeString_st h.drew sep (by omega))
  have HK := Lib.hid (key_len l sep s js hsep hs.2.1)
  have HL := Lib.hid hlen
  have HW := Lib.hid hw
  have HS := Lib.hid hs
  clear h hw hlen hs hsep
  cases js
  · go_enter Tryz.func53, Tryz.ntmps53
    go_wp2_with fail
    go_still_tail 8, (by kernel_rfl)
    clear c0 c1 c3 c4 c5 d0 p0 f3
    go_wp2_with (first | (go_at_call 42; go_must (refine k23.out.mono ?_; rintro e w1 ⟨rfl, h1, hbel1⟩; obtain ⟨c0, c1, c3, c4, c5, d0, p0, f3⟩ := h1.cells; have HB1 := Lib.hid hbel1; have k35 := Lib.hid (appendString_ok h1 s HS.out ((HW.out.drew).below hbel1 hB0) hB0 (by have := HL.out; have := HK.out.1; omega)); clear h1 hbel1 k23)) | (go_at_call 54; go_must (refine k35.out.mono ?_; rintro e w2 ⟨rfl, h2, hbel2⟩; clear c0 c1 c3 c4 c5 d0 p0 f3; obtain ⟨c0, c1, c3, c4, c5, d0, p0, f3⟩ := h2.cells; have HB2 := Lib.hid hbel2; clear k35 hbel2; have k33 := Lib.hid (writeByte_st h2 61 (by have := HL.out; have := HK.out.2; omega)); clear h2)) | (go_at_call 52; go_must (refine k33.out.mono ?_; rintro e w3 ⟨rfl, h3, hbel3⟩; clear c0 c1 c3 c4 c5 d0 p0 f3; obtain ⟨c0, c1, c3, c4, c5, d0, p0, f3⟩ := h3.cells; have HB3 := Lib.hid hbel3; have HS3 := Lib.hid (h3.setSep (sepOf false)); have k24 := Lib.hid (attrSep_any w3 bh false d0); clear k33 hbel3)) | (go_at_call 43; go_must (refine k24.out.mono ?_; rintro e w4 ⟨rfl, rfl⟩)))
    go_end0
    refine ⟨rfl, ?_, (((Below.refl B w).drew.trans HB1.out).trans HB2.out).trans (HB3.out.setCell (p := ⟨bs, 3, none⟩) h3.los _)⟩
    simpa [keyOf] using HS3.out
  · go_enter Tryz.func53, Tryz.ntmps53
    go_wp2_with fail
    go_still_tail 8, (by kernel_rfl)
    clear c0 c1 c3 c4 c5 d0 p0 f3
    go_wp2_with (first | (go_at_call 42; go_must (refine k23.out.mono ?_; rintro e w1 ⟨rfl, h1, hbel1⟩; obtain ⟨c0, c1, c3, c4, c5, d0, p0, f3⟩ := h1.cells; have HB1 := Lib.hid hbel1; have k35 := Lib.hid (appendString_ok h1 s HS.out ((HW.out.drew).below hbel1 hB0) hB0 (by have := HL.out; have := HK.out.1; omega)); clear h1 hbel1 k23)) | (go_at_call 54; go_must (refine k35.out.mono ?_; rintro e w2 ⟨rfl, h2, hbel2⟩; clear c0 c1 c3 c4 c5 d0 p0 f3; obtain ⟨c0, c1, c3, c4, c5, d0, p0, f3⟩ := h2.cells; have HB2 := Lib.hid hbel2; clear k35 hbel2; have k33 := Lib.hid (writeByte_st h2 58 (by have := HL.out; have := HK.out.2; omega)); clear h2)) | (go_at_call 52; go_must (refine k33.out.mono ?_; rintro e w3 ⟨rfl, h3, hbel3⟩; clear c0 c1 c3 c4 c5 d0 p0 f3; obtain ⟨c0, c1, c3, c4, c5, d0, p0, f3⟩ := h3.cells; have HB3 := Lib.hid hbel3; have HS3 := Lib.hid (h3.setSep (sepOf true)); have k24 := Lib.hid (attrSep_any w3 bh true d0); clear k33 hbel3)) | (go_at_call 43; go_must (refine k24.out.mono ?_; rintro e w4 ⟨rfl, rfl⟩)))
    go_end0
    refine ⟨rfl, ?_, (((Below.refl B w).drew.trans HB1.out).trans HB2.out).trans (HB3.out.setCell (p := ⟨bs, 3, none⟩) h3.los _)⟩
    simpa [keyOf] using HS3.out
end
end Go.Proofs.YtcllhgajdcemiaaGreatDoor.wk

namespace Go.Proofs.YtcllhgajdcemiaaGreatDoor.wk
open Go.RowKit

def okBb (c : UInt8) : Bool := decide (33 ≤ c.toNat) && (decide (c.toNat < 127) && (decide (c.toNat ≠ 34) && (decide (c.toNat ≠ 61) && decide (c.toNat ≠ 92))))
theorem okS_of (s : ByteArray) (h0 : 0 < s.size) (h1 : s.size ≤ 1000) (h : s.data.toList.all okBb = true) : okS s := by
  refine ⟨h0, h1, fun k hk => ?_⟩
  have hm : s[k] ∈ s.data.toList := Array.mem_toList_iff.2 (Array.getElem_mem (xs := s.data) hk)
  have := List.all_eq_true.1 h _ hm
  simp only [okBb, Bool.and_eq_true, decide_eq_true_eq] at this
  exact this

/-- the name of a level, in bytes. -/
def lvl (n : Int) : ByteArray :=
  if n = -4 then ⟨#[68, 69, 66, 85, 71]⟩ else
  if n = -3 then ⟨#[68, 69, 66, 85, 71, 43, 49]⟩ else
  if n = -2 then ⟨#[68, 69, 66, 85, 71, 43, 50]⟩ else
  if n = -1 then ⟨#[68, 69, 66, 85, 71, 43, 51]⟩ else
  if n = 0 then ⟨#[73, 78, 70, 79]⟩ else
  if n = 1 then ⟨#[73, 78, 70, 79, 43, 49]⟩ else
  if n = 2 then ⟨#[73, 78, 70, 79, 43, 50]⟩ else
  if n = 3 then ⟨#[73, 78, 70, 79, 43, 51]⟩ else
  if n = 4 then ⟨#[87, 65, 82, 78]⟩ else
  if n = 5 then ⟨#[87, 65, 82, 78, 43, 49]⟩ else
  if n = 6 then ⟨#[87, 65, 82, 78, 43, 50]⟩ else
  if n = 7 then ⟨#[87, 65, 82, 78, 43, 51]⟩ else
  if n = 8 then ⟨#[69, 82, 82, 79, 82]⟩ else
  ⟨#[]⟩

/-! string([]byte{c}): the one digit behind the plus sign. -/
theorem conv49 (w : World) : (convert 60 9 (.slice (some ⟨w.heap.size, 0, none⟩) 1 1)).run Tryz.prog (w.alloc (.cells #[.int .u8 49] 5)) = .ok (.string ⟨#[49]⟩) (w.alloc (.cells #[.int .u8 49] 5)) := by
  rw [run_convert_bytes_arg (P := Tryz.prog) _ 60 5 Tryz.underlying60 Tryz.underlying5 w.heap.size 0 1 1 [49] rfl (fun i hi => by
    obtain rfl : i = 0 := by omega
    simp) 9 Tryz.underlying9]
  rfl
theorem conv50 (w : World) : (convert 60 9 (.slice (some ⟨w.heap.size, 0, none⟩) 1 1)).run Tryz.prog (w.alloc (.cells #[.int .u8 50] 5)) = .ok (.string ⟨#[50]⟩) (w.alloc (.cells #[.int .u8 50] 5)) := by
  rw [run_convert_bytes_arg (P := Tryz.prog) _ 60 5 Tryz.underlying60 Tryz.underlying5 w.heap.size 0 1 1 [50] rfl (fun i hi => by
    obtain rfl : i = 0 := by omega
    simp) 9 Tryz.underlying9]
  rfl
theorem conv51 (w : World) : (convert 60 9 (.slice (some ⟨w.heap.size, 0, none⟩) 1 1)).run Tryz.prog (w.alloc (.cells #[.int .u8 51] 5)) = .ok (.string ⟨#[51]⟩) (w.alloc (.cells #[.int .u8 51] 5)) := by
  rw [run_convert_bytes_arg (P := Tryz.prog) _ 60 5 Tryz.underlying60 Tryz.underlying5 w.heap.size 0 1 1 [51] rfl (fun i hi => by
    obtain rfl : i = 0 := by omega
    simp) 9 Tryz.underlying9]
  rfl

theorem string_m4 (w : World) : Calls Tryz.prog 55 #[.int .i64 (-4)] w fun e w' => e = .returned (.string (lvl (-4))) ∧ w = w' := by
  have hmf : ∀ (fn : Fn) (first cap : Array Value) (w : World), (Instr.makeFunc fn first cap).run Tryz.prog w = .ok (.func fn first cap) w := fun _ _ _ _ => rfl
  go_enter Tryz.func55, Tryz.ntmps55
  go_wp2
  go_ret
  exact ⟨by kernel_rfl, rfl⟩
theorem level_m4 (w : World) : Calls Tryz.prog 21 #[.int .i64 (-4)] w fun e w' => e = .returned (.string (lvl (-4))) ∧ Below w.heap.size w w' := by
  go_enter Tryz.func21, Tryz.ntmps21
  go_wp2
  go_ret
  exact ⟨by kernel_rfl, by repeat (first | exact Below.refl _ _ | refine Below.alloc ?_ (by simp) _ | refine Below.drew ?_)⟩

theorem string_m3 (w : World) : Calls Tryz.prog 55 #[.int .i64 (-3)] w fun e w' => e = .returned (.string (lvl (-3))) ∧ w = w' := by
  have hmf : ∀ (fn : Fn) (first cap : Array Value) (w : World), (Instr.makeFunc fn first cap).run Tryz.prog w = .ok (.func fn first cap) w := fun _ _ _ _ => rfl
  go_enter Tryz.func55, Tryz.ntmps55
  go_wp2
  go_ret
  exact ⟨by kernel_rfl, rfl⟩
theorem level_m3 (w : World) : Calls Tryz.prog 21 #[.int .i64 (-3)] w fun e w' => e = .returned (.string (lvl (-3))) ∧ Below w.heap.size w w' := by
  have hcv := conv49
  go_enter Tryz.func21, Tryz.ntmps21
  go_wp2
  go_ret
  exact ⟨by kernel_rfl, by repeat (first | exact Below.refl _ _ | refine Below.alloc ?_ (by simp) _ | refine Below.drew ?_)⟩

theorem string_m2 (w : World) : Calls Tryz.prog 55 #[.int .i64 (-2)] w fun e w' => e = .returned (.string (lvl (-2))) ∧ w = w' := by
  have hmf : ∀ (fn : Fn) (first cap : Array Value) (w : World), (Instr.makeFunc fn first cap).run Tryz.prog w = .ok (.func fn first cap) w := fun _ _ _ _ => rfl
  go_enter Tryz.func55, Tryz.ntmps55
  go_wp2
  go_ret
  exact ⟨by kernel_rfl, rfl⟩
theorem level_m2 (w : World) : Calls Tryz.prog 21 #[.int .i64 (-2)] w fun e w' => e = .returned (.string (lvl (-2))) ∧ Below w.heap.size w w' := by
  have hcv := conv50
  go_enter Tryz.func21, Tryz.ntmps21
  go_wp2
  go_ret
  exact ⟨by kernel_rfl, by repeat (first | exact Below.refl _ _ | refine Below.alloc ?_ (by simp) _ | refine Below.drew ?_)⟩

theorem string_m1 (w : World) : Calls Tryz.prog 55 #[.int .i64 (-1)] w fun e w' => e = .returned (.string (lvl (-1))) ∧ w = w' := by
  have hmf : ∀ (fn : Fn) (first cap : Array Value) (w : World), (Instr.makeFunc fn first cap).run Tryz.prog w = .ok (.func fn first cap) w := fun _ _ _ _ => rfl
  go_enter Tryz.func55, Tryz.ntmps55
  go_wp2
  go_ret
  exact ⟨by kernel_rfl, rfl⟩
theorem level_m1 (w : World) : Calls Tryz.prog 21 #[.int .i64 (-1)] w fun e w' => e = .returned (.string (lvl (-1))) ∧ Below w.heap.size w w' := by
  have hcv := conv51
  go_enter Tryz.func21, Tryz.ntmps21
  go_wp2
  go_ret
  exact ⟨by kernel_rfl, by repeat (first | exact Below.refl _ _ | refine Below.alloc ?_ (by simp) _ | refine Below.drew ?_)⟩

theorem string_0 (w : World) : Calls Tryz.prog 55 #[.int .i64 0] w fun e w' => e = .returned (.string (lvl 0)) ∧ w = w' := by
  have hmf : ∀ (fn : Fn) (first cap : Array Value) (w : World), (Instr.makeFunc fn first cap).run Tryz.prog w = .ok (.func fn first cap) w := fun _ _ _ _ => rfl
  go_enter Tryz.func55, Tryz.ntmps55
  go_wp2
  go_ret
  exact ⟨by kernel_rfl, rfl⟩
theorem level_0 (w : World) : Calls Tryz.prog 21 #[.int .i64 0] w fun e w' => e = .returned (.string (lvl 0)) ∧ Below w.heap.size w w' := by
  go_enter Tryz.func21, Tryz.ntmps21
  go_wp2
  go_ret
  exact ⟨by kernel_rfl, by repeat (first | exact Below.refl _ _ | refine Below.alloc ?_ (by simp) _ | refine Below.drew ?_)⟩

theorem string_1 (w : World) : Calls Tryz.prog 55 #[.int .i64 1] w fun e w' => e = .returned (.string (lvl 1)) ∧ w = w' := by
  have hmf : ∀ (fn : Fn) (first cap : Array Value) (w : World), (Instr.makeFunc fn first cap).run Tryz.prog w = .ok (.func fn first cap) w := fun _ _ _ _ => rfl
  go_enter Tryz.func55, Tryz.ntmps55
  go_wp2
  go_ret
  exact ⟨by kernel_rfl, rfl⟩
theorem level_1 (w : World) : Calls Tryz.prog 21 #[.int .i64 1] w fun e w' => e = .returned (.string (lvl 1)) ∧ Below w.heap.size w w' := by
  have hcv := conv49
  go_enter Tryz.func21, Tryz.ntmps21
  go_wp2
  go_ret
  exact ⟨by kernel_rfl, by repeat (first | exact Below.refl _ _ | refine Below.alloc ?_ (by simp) _ | refine Below.drew ?_)⟩

theorem string_2 (w : World) : Calls Tryz.prog 55 #[.int .i64 2] w fun e w' => e = .returned (.string (lvl 2)) ∧ w = w' := by
  have hmf : ∀ (fn : Fn) (first cap : Array Value) (w : World), (Instr.makeFunc fn first cap).run Tryz.prog w = .ok (.func fn first cap) w := fun _ _ _ _ => rfl
  go_enter Tryz.func55, Tryz.ntmps55
  go_wp2
  go_ret
  exact ⟨by kernel_rfl, rfl⟩
theorem level_2 (w : World) : Calls Tryz.prog 21 #[.int .i64 2] w fun e w' => e = .returned (.string (lvl 2)) ∧ Below w.heap.size w w' := by
  have hcv := conv50
  go_enter Tryz.func21, Tryz.ntmps21
  go_wp2
  go_ret
  exact ⟨by kernel_rfl, by repeat (first | exact Below.refl _ _ | refine Below.alloc ?_ (by simp) _ | refine Below.drew ?_)⟩

theorem string_3 (w : World) : Calls Tryz.prog 55 #[.int .i64 3] w fun e w' => e = .returned (.string (lvl 3)) ∧ w = w' := by
  have hmf : ∀ (fn : Fn) (first cap : Array Value) (w : World), (Instr.makeFunc fn first cap).run Tryz.prog w = .ok (.func fn first cap) w := fun _ _ _ _ => rfl
  go_enter Tryz.func55, Tryz.ntmps55
  go_wp2
  go_ret
  exact ⟨by kernel_rfl, rfl⟩
theorem level_3 (w : World) : Calls Tryz.prog 21 #[.int .i64 3] w fun e w' => e = .returned (.string (lvl 3)) ∧ Below w.heap.size w w' := by
  have hcv := conv51
  go_enter Tryz.func21, Tryz.ntmps21
  go_wp2
  go_ret
  exact ⟨by kernel_rfl, by repeat (first | exact Below.refl _ _ | refine Below.alloc ?_ (by simp) _ | refine Below.drew ?_)⟩

theorem string_4 (w : World) : Calls Tryz.prog 55 #[.int .i64 4] w fun e w' => e = .returned (.string (lvl 4)) ∧ w = w' := by
  have hmf : ∀ (fn : Fn) (first cap : Array Value) (w : World), (Instr.makeFunc fn first cap).run Tryz.prog w = .ok (.func fn first cap) w := fun _ _ _ _ => rfl
  go_enter Tryz.func55, Tryz.ntmps55
  go_wp2
  go_ret
  exact ⟨by kernel_rfl, rfl⟩
theorem level_4 (w : World) : Calls Tryz.prog 21 #[.int .i64 4] w fun e w' => e = .returned (.string (lvl 4)) ∧ Below w.heap.size w w' := by
  go_enter Tryz.func21, Tryz.ntmps21
  go_wp2
  go_ret
  exact ⟨by kernel_rfl, by repeat (first | exact Below.refl _ _ | refine Below.alloc ?_ (by simp) _ | refine Below.drew ?_)⟩

theorem string_5 (w : World) : Calls Tryz.prog 55 #[.int .i64 5] w fun e w' => e = .returned (.string (lvl 5)) ∧ w = w' := by
  have hmf : ∀ (fn : Fn) (first cap : Array Value) (w : World), (Instr.makeFunc fn first cap).run Tryz.prog w = .ok (.func fn first cap) w := fun _ _ _ _ => rfl
  go_enter Tryz.func55, Tryz.ntmps55
  go_wp2
  go_ret
  exact ⟨by kernel_rfl, rfl⟩
theorem level_5 (w : World) : Calls Tryz.prog 21 #[.int .i64 5] w fun e w' => e = .returned (.string (lvl 5)) ∧ Below w.heap.size w w' := by
  have hcv := conv49
  go_enter Tryz.func21, Tryz.ntmps21
  go_wp2
  go_ret
  exact ⟨by kernel_rfl, by repeat (first | exact Below.refl _ _ | refine Below.alloc ?_ (by simp) _ | refine Below.drew ?_)⟩

theorem string_6 (w : World) : Calls Tryz.prog 55 #[.int .i64 6] w fun e w' => e = .returned (.string (lvl 6)) ∧ w = w' := by
  have hmf : ∀ (fn : Fn) (first cap : Array Value) (w : World), (Instr.makeFunc fn first cap).run Tryz.prog w = .ok (.func fn first cap) w := fun _ _ _ _ => rfl
  go_enter Tryz.func55, Tryz.ntmps55
  go_wp2
  go_ret
  exact ⟨by kernel_rfl, rfl⟩
theorem level_6 (w : World) : Calls Tryz.prog 21 #[.int .i64 6] w fun e w' => e = .returned (.string (lvl 6)) ∧ Below w.heap.size w w' := by
  have hcv := conv50
  go_enter Tryz.func21, Tryz.ntmps21
  go_wp2
  go_ret
  exact ⟨by kernel_rfl, by repeat (first | exact Below.refl _ _ | refine Below.alloc ?_ (by simp) _ | refine Below.drew ?_)⟩

theorem string_7 (w : World) : Calls Tryz.prog 55 #[.int .i64 7] w fun e w' => e = .returned (.string (lvl 7)) ∧ w = w' := by
  have hmf : ∀ (fn : Fn) (first cap : Array Value) (w : World), (Instr.makeFunc fn first cap).run Tryz.prog w = .ok (.func fn first cap) w := fun _ _ _ _ => rfl
  go_enter Tryz.func55, Tryz.ntmps55
  go_wp2
  go_ret
  exact ⟨by kernel_rfl, rfl⟩
theorem level_7 (w : World) : Calls Tryz.prog 21 #[.int .i64 7] w fun e w' => e = .returned (.string (lvl 7)) ∧ Below w.heap.size w w' := by
  have hcv := conv51
  go_enter Tryz.func21, Tryz.ntmps21
  go_wp2
  go_ret
  exact ⟨by kernel_rfl, by repeat (first | exact Below.refl _ _ | refine Below.alloc ?_ (by simp) _ | refine Below.drew ?_)⟩

theorem string_8 (w : World) : Calls Tryz.prog 55 #[.int .i64 8] w fun e w' => e = .returned (.string (lvl 8)) ∧ w = w' := by
  have hmf : ∀ (fn : Fn) (first cap : Array Value) (w : World), (Instr.makeFunc fn first cap).run Tryz.prog w = .ok (.func fn first cap) w := fun _ _ _ _ => rfl
  go_enter Tryz.func55, Tryz.ntmps55
  go_wp2
  go_ret
  exact ⟨by kernel_rfl, rfl⟩
theorem level_8 (w : World) : Calls Tryz.prog 21 #[.int .i64 8] w fun e w' => e = .returned (.string (lvl 8)) ∧ Below w.heap.size w w' := by
  go_enter Tryz.func21, Tryz.ntmps21
  go_wp2
  go_ret
  exact ⟨by kernel_rfl, by repeat (first | exact Below.refl _ _ | refine Below.alloc ?_ (by simp) _ | refine Below.drew ?_)⟩

theorem cases13 (n : Int) (h0 : -4 ≤ n) (h1 : n ≤ 8) : n = -4 ∨ n = -3 ∨ n = -2 ∨ n = -1 ∨ n = 0 ∨ n = 1 ∨ n = 2 ∨ n = 3 ∨ n = 4 ∨ n = 5 ∨ n = 6 ∨ n = 7 ∨ n = 8 := by omega
theorem string_any (n : Int) (h0 : -4 ≤ n) (h1 : n ≤ 8) (w : World) : Calls Tryz.prog 55 #[.int .i64 n] w fun e w' => e = .returned (.string (lvl n)) ∧ w = w' := by
  rcases cases13 n h0 h1 with rfl | rfl | rfl | rfl | rfl | rfl | rfl | rfl | rfl | rfl | rfl | rfl | rfl
  · exact string_m4 w
  · exact string_m3 w
  · exact string_m2 w
  · exact string_m1 w
  · exact string_0 w
  · exact string_1 w
  · exact string_2 w
  · exact string_3 w
  · exact string_4 w
  · exact string_5 w
  · exact string_6 w
  · exact string_7 w
  · exact string_8 w
theorem level_any (n : Int) (h0 : -4 ≤ n) (h1 : n ≤ 8) (w : World) : Calls Tryz.prog 21 #[.int .i64 n] w fun e w' => e = .returned (.string (lvl n)) ∧ Below w.heap.size w w' := by
  rcases cases13 n h0 h1 with rfl | rfl | rfl | rfl | rfl | rfl | rfl | rfl | rfl | rfl | rfl | rfl | rfl
  · exact level_m4 w
  · exact level_m3 w
  · exact level_m2 w
  · exact level_m1 w
  · exact level_0 w
  · exact level_1 w
  · exact level_2 w
  · exact level_3 w
  · exact level_4 w
  · exact level_5 w
  · exact level_6 w
  · exact level_7 w
  · exact level_8 w
theorem lvl_ok (n : Int) (h0 : -4 ≤ n) (h1 : n ≤ 8) : okS (lvl n) := by
  rcases cases13 n h0 h1 with rfl | rfl | rfl | rfl | rfl | rfl | rfl | rfl | rfl | rfl | rfl | rfl | rfl
  all_goals exact okS_of _ (by decide) (by decide) (by decide)
end Go.Proofs.YtcllhgajdcemiaaGreatDoor.wk

namespace Go.Proofs.YtcllhgajdcemiaaGreatDoor.wk
open Go.RowKit
section
variable {w w' : World} {B bh bs bb bp : Nat} {js fb : Bool} {sep : ByteArray} {l l' : List UInt8}

theorem info65 : (Tryz.prog.info? 65).map (fun i => (i.zero, i.size, i.bytes)) = some (some (.slice none 0 0), 1, 24) := by kernel_rfl

theorem newBuffer_any (w : World) : Calls Tryz.prog 51 #[] w fun e w' => e = .returned (.pointer (some ⟨w.heap.size, 0, none⟩)) ∧ w' = w.alloc (.cells #[.slice none 0 0] 65) := by
  go_enter Tryz.func51, Tryz.ntmps51
  go_wp2
  go_ret
  exact ⟨rfl, rfl⟩

set_option maxHeartbeats 1000000 in
theorem newState_any (w : World) (a b : Addr) (fb : Bool) (sep : ByteArray) :
    Calls Tryz.prog 40 #[.pointer (some a), .pointer (some b), .bool fb, .string sep] w fun e w' => ∃ bp, w.heap.size ≤ bp ∧ e = .returned (.agg #[.pointer (some a), .pointer (some b), .bool fb, .string sep, .pointer (some ⟨bp, 0, none⟩), .pointer none]) ∧
      Blk w' bp 65 #[.slice none 0 0] ∧ Below w.heap.size w w' := by
  go_enter Tryz.func40, Tryz.ntmps40
  go_wp2_with (go_at_call 51; go_must (refine (newBuffer_any _).mono ?_; rintro e w1 ⟨rfl, rfl⟩))
  refine bodyPost_ret (v := .agg #[.pointer (some a), .pointer (some b), .bool fb, .string sep, .pointer (some ⟨w.heap.size + 1, 0, none⟩), .pointer none]) (by simp [results, Tryz.results40, go_sem]) rfl ⟨w.heap.size + 1, by omega, rfl, ?_, ?_⟩
  · refine Blk.alloc ?_ _
    have h := Blk.new (w.alloc (.cells #[.pointer (some a), .pointer (some b), .bool fb, .string sep, .pointer (some ⟨w.heap.size + 1, 0, none⟩), .pointer none] 87)) 65 #[.slice none 0 0]
    simpa using h
  · exact (((Below.refl _ w).alloc (Nat.le_refl _) _).alloc (by simp) _).alloc (by simp; omega) _

/-- free, entered as a deferred call: it changes nothing. -/
theorem free_deferred (h : St w B js bh bs bb bp fb sep l) (u : FrameMode) :
    CallsD Tryz.prog 41 #[.pointer (some ⟨bs, 0, none⟩)] u w fun e u' w' => u' = u ∧ (e = .returned (.tuple #[]) ∧ w' = w) := by
  obtain ⟨c0, c1, c3, c4, c5, d0, p0, f3⟩ := h.cells
  have c2 : w.cell? ⟨bs, 2, none⟩ = some (.bool fb) := h.s.cell 2
  clear h
  cases fb
  · go_enter_d Tryz.func41, Tryz.ntmps41
    go_wp2
    go_end0
    go_wp2
    go_end0
    exact ⟨rfl, rfl⟩
  · go_enter_d Tryz.func41, Tryz.ntmps41
    go_wp2
    go_end0
    go_wp2
    go_end0
    go_wp2
    go_end0
    exact ⟨rfl, rfl⟩

/-- what lies below the heap's size stays: the state stands. -/
theorem St.below (h : St w B js bh bs bb bp fb sep l) (hb : Below w.heap.size w w') : St w' B js bh bs bb bp fb sep l := by
  obtain ⟨v, hv, hown⟩ := h.b
  exact ⟨h.s.below hb h.s.lt, h.h.below hb h.h.lt, h.p.below hb h.p.lt, ⟨v, hv.below hb hv.lt, hown.kept (row := none) ⟨hb.os, hb.tape, hb.output, hb.size, fun k hk _ => hb.block k hk⟩ (by cases v.ownBlock <;> simp)⟩, h.ne, h.los, h.lob, Nat.le_trans h.hz hb.size⟩

theorem numAttrs_any (w : World) (msg : ByteArray) (n : Int) (A : Option Addr) (k c : Nat) :
    Calls Tryz.prog 72 #[.agg #[.string msg, .int .i64 n, .slice A k c]] w fun e w' => e = .returned (.int .i64 k) ∧ Below w.heap.size w w' := by
  go_enter Tryz.func72, Tryz.ntmps72
  go_wp2
  go_ret
  exact ⟨rfl, (Below.refl _ w).alloc (Nat.le_refl _) _⟩

set_option maxRecDepth 100000 in
set_option maxHeartbeats 2000000 in
/-- appendNonBuiltIns without attributes: in JSON the object is closed. -/
theorem nonBuiltIns_none (h : St w B js bh bs bb bp fb sep l) (hlen : l.length + 1 ≤ 140737488355328) (msg : ByteArray) (n : Int) :
    Calls Tryz.prog 56 #[.pointer (some ⟨bs, 0, none⟩), .agg #[.string msg, .int .i64 n, .slice none 0 0]] w fun e w' => e = .returned (.tuple #[]) ∧
      St w' B js bh bs bb bp fb sep (l ++ if js then [125] else []) ∧ Below B w w' := by
  have hbs := h.s.lt
  have hbh := h.h.lt
  have HZ := Lib.hid h.hz
  obtain ⟨c0, c1, c3, c4, c5, d0, p0, f3⟩ := h.cells
  have d1 : w.cell? ⟨bh, 1, none⟩ = some (.slice none 0 0) := h.h.cell 1
  have d3 : w.cell? ⟨bh, 3, none⟩ = some (.slice none 0 0) := h.h.cell 3
  have d4 : w.cell? ⟨bh, 4, none⟩ = some (.int .i64 0) := h.h.cell 4
  have H := Lib.hid h
  have HL := Lib.hid hlen
  clear h hlen
  cases js
  · go_enter Tryz.func56, Tryz.ntmps56
    go_wp2_with (go_at_call 72; go_must (refine (numAttrs_any _ msg n none 0 0).mono ?_; rintro e w1 ⟨rfl, hb0⟩; have hb1 : Below w.heap.size w w1 := (((Below.refl _ w).alloc (Nat.le_refl _) _).alloc (by simp) _).trans (hb0.mono (by simp; omega)); have h1 := H.out.below hb1; clear c0 c1 c3 c4 c5 d0 p0 f3 d1 d3 d4; obtain ⟨c0, c1, c3, c4, c5, d0, p0, f3⟩ := h1.cells; have e0 : w1.cell? ⟨w.heap.size, 0, none⟩ = some (.pointer (some ⟨bs, 0, none⟩)) := (hb0.cell (by simp; omega)).trans (by simp)))
    go_end0
    exact ⟨rfl, by simpa using h1, hb1.mono HZ.out⟩
  · go_enter Tryz.func56, Tryz.ntmps56
    go_wp2_with (go_at_call 72; go_must (refine (numAttrs_any _ msg n none 0 0).mono ?_; rintro e w1 ⟨rfl, hb0⟩; have hb1 : Below w.heap.size w w1 := (((Below.refl _ w).alloc (Nat.le_refl _) _).alloc (by simp) _).trans (hb0.mono (by simp; omega)); have h1 := H.out.below hb1; clear c0 c1 c3 c4 c5 d0 p0 f3 d1 d3 d4; obtain ⟨c0, c1, c3, c4, c5, d0, p0, f3⟩ := h1.cells; have d3 : w1.cell? ⟨bh, 3, none⟩ = some (.slice none 0 0) := h1.h.cell 3; have e0 : w1.cell? ⟨w.heap.size, 0, none⟩ = some (.pointer (some ⟨bs, 0, none⟩)) := (hb0.cell (by simp; omega)).trans (by simp)))
    have k33 := Lib.hid (writeByte_st h1 125 HL.out)
    have HB1 := Lib.hid hb1
    clear hb0 hb1 h1 H
    refine wp_loop_rounds 1 ?_
    rw [rounds_succ]
    go_wp2_with (go_at_call 52; go_must (refine k33.out.mono ?_; rintro e w2 ⟨rfl, h2, hbel2⟩))
    go_end0
    exact ⟨rfl, by simpa using h2, (HB1.out.mono HZ.out).trans hbel2⟩
end
end Go.Proofs.YtcllhgajdcemiaaGreatDoor.wk

namespace Go.Proofs.YtcllhgajdcemiaaGreatDoor.wk
open Go.RowKit

theorem conv_own {w : World} {B : Nat} {v : Value} {l : List UInt8} (hown : w.ownsRow B 5 1 v l.length (bytesOf l)) (hl : l ≠ []) : (convert 65 9 v).run Tryz.prog w = .ok (.string ⟨l.toArray⟩) w := by
  have hlen : 0 < l.length := List.length_pos_iff.2 hl
  have hc := fun g => World.ownsRow.cells (g := g) hown
  rcases hown.2 with ⟨_, h0⟩ | ⟨g, cap, cur, rfl, _⟩
  · omega
  · have hb : Lib.Bytes w g 0 ⟨l.toArray⟩ := by
      intro i hi
      have hi' : i < l.length := by simpa [ByteArray.size] using hi
      have := hc g rfl i (.int .u8 l[i].toNat) (by simp [bytesOf, List.getElem?_map, List.getElem?_eq_getElem hi'])
      have e : (⟨l.toArray⟩ : ByteArray)[i] = l[i] := by show l.toArray[i] = l[i]; simp
      rw [e]
      simpa [Addr.add_lit] using this
    have h := Lib.run_convert_whole (P := Tryz.prog) w 65 5 9 Tryz.underlying65 Tryz.underlying5 Tryz.underlying9 g 0 ⟨l.toArray⟩ hb cap
    simpa [ByteArray.size] using h

def keyLevel : ByteArray := ⟨#[108, 101, 118, 101, 108]⟩
def keyMsg : ByteArray := ⟨#[109, 115, 103]⟩
theorem keyLevel_ok : okS keyLevel := okS_of _ (by decide) (by decide) (by decide)
theorem keyMsg_ok : okS keyMsg := okS_of _ (by decide) (by decide) (by decide)
/-- the line. -/
def lineOf (js : Bool) (n : Int) (msg : ByteArray) : List UInt8 :=
  (((((if js then [123] else []) ++ keyOf js ⟨#[]⟩ keyLevel.data.toList) ++ strOf js (lvl n).data.toList) ++ keyOf js (sepOf js) keyMsg.data.toList) ++ strOf js msg.data.toList ++ (if js then [125] else [])) ++ [10]

section
variable {w w' : World} {B R bh bs bb bp : Nat} {js fb : Bool} {sep sep' : ByteArray} {l l' : List UInt8} {msg : ByteArray} {n : Int}

/-- the state, the record in its box, the table: what handle carries from call to call. -/
structure Hst (w : World) (B R : Nat) (js : Bool) (bh bs bb bp : Nat) (msg : ByteArray) (n : Int) (sep : ByteArray) (l : List UInt8) : Prop where
  st : St w B js bh bs bb bp true sep l
  r0 : w.cell? ⟨R, 0, none⟩ = some (.string msg)
  r1 : w.cell? ⟨R, 1, none⟩ = some (.int .i64 n)
  r2 : w.cell? ⟨R, 2, none⟩ = some (.slice none 0 0)
  hR : R < B
  safe : Safe w

theorem Hst.next (h : Hst w B R js bh bs bb bp msg n sep l) (hs : St w' B js bh bs bb bp true sep' l') (hb : Below B w w') : Hst w' B R js bh bs bb bp msg n sep' l' :=
  ⟨hs, (hb.cell (p := ⟨R, 0, none⟩) h.hR).trans h.r0, (hb.cell (p := ⟨R, 1, none⟩) h.hR).trans h.r1, (hb.cell (p := ⟨R, 2, none⟩) h.hR).trans h.r2, h.hR, h.safe.below hb (Nat.lt_of_le_of_lt (Nat.zero_le _) h.hR)⟩
theorem Hst.B0 (h : Hst w B R js bh bs bb bp msg n sep l) : 0 < B := Nat.lt_of_le_of_lt (Nat.zero_le _) h.hR

theorem St.setGroups (h : St w B js bh bs bb bp fb sep l) : St (w.setCell ⟨bs, 5, none⟩ (.pointer none)) B js bh bs bb bp fb sep l := by
  obtain ⟨v, hv, hown⟩ := h.b
  refine ⟨?_, h.h.far (p := ⟨bs, 5, none⟩) (h.h.ne_ h.s (by decide)) _, h.p.far (p := ⟨bs, 5, none⟩) (h.p.ne_ h.s (by decide)) _, ⟨v, hv.far (p := ⟨bs, 5, none⟩) (hv.ne_ h.s (by decide)) _, own_set hown (own_blk_ne hown h.s (by decide)) _⟩, h.ne, h.los, h.lob, by simpa [World.setCell] using h.hz⟩
  have := h.s.set_ 5 (.pointer none)
  simpa using this
theorem Hst.setGroups (h : Hst w B R js bh bs bb bp msg n sep l) : Hst (w.setCell ⟨bs, 5, none⟩ (.pointer none)) B R js bh bs bb bp msg n sep l :=
  h.next h.st.setGroups ((Below.refl B w).setCell (p := ⟨bs, 5, none⟩) h.st.los _)

/-- the loads, for the walk. -/
theorem Hst.cells (h : Hst w B R js bh bs bb bp msg n sep l) :
    w.cell? ⟨bs, 1, none⟩ = some (.pointer (some ⟨bb, 0, none⟩)) ∧ w.cell? ⟨bs, 5, none⟩ = some (.pointer none) ∧ w.frozen? ⟨bs, 5, none⟩ = false ∧ w.cell? ⟨bh, 0, none⟩ = some (.bool js) ∧
    w.cell? ⟨R, 0, none⟩ = some (.string msg) ∧ w.cell? ⟨R, 1, none⟩ = some (.int .i64 n) ∧ w.cell? ⟨R, 2, none⟩ = some (.slice none 0 0) :=
  ⟨h.st.s.cell 1, h.st.s.cell 5, h.st.s.frozen 5, h.st.h.cell 0, h.r0, h.r1, h.r2⟩

theorem keyOf_length (js : Bool) (sep s : ByteArray) (h1 : sep.size ≤ 1) (h2 : s.size ≤ 1000) : (keyOf js sep s.data.toList).length ≤ 1005 := by
  have e1 : sep.data.toList.length = sep.size := Array.length_toList
  have e2 : s.data.toList.length = s.size := Array.length_toList
  have := strOf_length js s.data.toList
  unfold keyOf
  rw [List.length_append, List.length_append, e1]
  simp
  omega
theorem sepOf_size (js : Bool) : (sepOf js).size ≤ 1 := by cases js <;> decide

/-- the state as handle makes it. -/
theorem Hst.init {w2 : World} (hh : Blk w bh 68 #[.bool js, .slice none 0 0, .string ⟨#[]⟩, .slice none 0 0, .int .i64 0]) (hs : Safe w) (hp : Blk w2 bp 65 #[.slice none 0 0]) (hbp : w.heap.size + 2 ≤ bp)
    (hb2 : Below (w.heap.size + 2) ((w.alloc (.cells #[.string msg, .int .i64 n, .slice none 0 0] 75)).alloc (.cells #[.slice none 0 0] 65)) w2) :
    Hst (w2.alloc (.cells #[.pointer (some ⟨bh, 0, none⟩), .pointer (some ⟨w.heap.size + 1, 0, none⟩), .bool true, .string ⟨#[]⟩, .pointer (some ⟨bp, 0, none⟩), .pointer none] 87))
      (w.heap.size + 1) w.heap.size js bh w2.heap.size (w.heap.size + 1) bp msg n ⟨#[]⟩ [] := by
  have hlt := hh.lt
  have hz : w.heap.size + 2 ≤ w2.heap.size := by have := hb2.size; simp at this; omega
  have hbb : Blk w2 (w.heap.size + 1) 65 #[.slice none 0 0] := by
    have h0 := Blk.new (w.alloc (.cells #[.string msg, .int .i64 n, .slice none 0 0] 75)) 65 #[.slice none 0 0]
    have h1 : Blk ((w.alloc (.cells #[.string msg, .int .i64 n, .slice none 0 0] 75)).alloc (.cells #[.slice none 0 0] 65)) (w.heap.size + 1) 65 #[.slice none 0 0] := by simpa using h0
    exact h1.below hb2 (by omega)
  have hR : Blk w2 w.heap.size 75 #[.string msg, .int .i64 n, .slice none 0 0] := ((Blk.new w 75 _).alloc _).below hb2 (by omega)
  have hh2 : Blk w2 bh 68 #[.bool js, .slice none 0 0, .string ⟨#[]⟩, .slice none 0 0, .int .i64 0] := ((hh.alloc _).alloc _).below hb2 (by omega)
  have hw2 : Below w.heap.size w w2 := (((Below.refl _ w).alloc (Nat.le_refl _) _).alloc (by simp) _).trans (hb2.mono (by omega))
  refine ⟨⟨Blk.new _ _ _, hh2.alloc _, hp.alloc _, ⟨.slice none 0 0, hbb.alloc _, World.ownsRow_nil _ _ _ _⟩, by omega, by omega, Nat.le_refl _, by simp; omega⟩,
    (hR.alloc _).cell 0, (hR.alloc _).cell 1, (hR.alloc _).cell 2, by omega, ?_⟩
  have hs2 : Safe w2 := hs.below hw2 (by omega)
  exact hs2.below (B := w2.heap.size) ((Below.refl _ _).alloc (Nat.le_refl _) _) (by omega)

set_option maxRecDepth 100000 in
set_option maxHeartbeats 4000000 in
theorem handle_ok (w : World) (bh : Nat) (js : Bool) (n : Int) (msg : ByteArray) (hh : Blk w bh 68 #[.bool js, .slice none 0 0, .string ⟨#[]⟩, .slice none 0 0, .int .i64 0]) (hn0 : -4 ≤ n) (hn1 : n ≤ 8) (hm : okS msg) (hs : Safe w) :
    Calls Tryz.prog 35 #[.pointer (some ⟨bh, 0, none⟩), .agg #[.string msg, .int .i64 n, .slice none 0 0]] w fun e w' => e = .returned (.string ⟨(lineOf js n msg).toArray⟩) ∧ Below w.heap.size w w' := by
  have c0 : w.cell? ⟨bh, 0, none⟩ = some (.bool js) := hh.cell 0
  have hlt := hh.lt
  have HH := Lib.hid hh
  have HS := Lib.hid hs
  have HM := Lib.hid hm
  clear hh
  cases js
  · have KL := Lib.hid (And.intro (keyOf_length false ⟨#[]⟩ keyLevel (by decide) (by decide)) (And.intro (keyOf_length false (sepOf false) keyMsg (sepOf_size _) (by decide)) (And.intro (strOf_length false (lvl n).data.toList) (And.intro (okS_size (lvl_ok n hn0 hn1)) (And.intro (strOf_length false msg.data.toList) (okS_size hm))))))
    go_enter_defers Tryz.func35, Tryz.ntmps35
    go_wp2_with (first | (go_at_call 51; go_must (refine (newBuffer_any _).mono ?_; rintro e w1 ⟨rfl, rfl⟩)) | (go_at_call 40; go_must (refine (newState_any _ _ _ _ _).mono ?_; rintro e w2 ⟨bp, hbp, rfl, hp, hb2⟩; have hb3 : Below (w.heap.size + 2) ((w.alloc (.cells #[.string msg, .int .i64 n, .slice none 0 0] 75)).alloc (.cells #[.slice none 0 0] 65)) w2 := (by simpa using hb2); have hbp' : w.heap.size + 2 ≤ bp := (by simpa using hbp); have H3 := Lib.hid (Hst.init HH.out HS.out hp hbp' hb3); have hz : w.heap.size + 2 ≤ w2.heap.size := (by have := hb3.size; simp at this; omega); have hlt2 : bh < w2.heap.size := (by omega); have hlt3 : w.heap.size < w2.heap.size := (by omega); have c2 : w2.cell? ⟨bh, 0, none⟩ = some (.bool false) := (by have := H3.out.st.h.cell 0; rwa [World.cell?_alloc_lt _ _ _ hlt2] at this); have r1 : w2.cell? ⟨w.heap.size, 1, none⟩ = some (.int .i64 n) := (by have := H3.out.r1; rwa [World.cell?_alloc_lt _ _ _ hlt3] at this); have HB := Lib.hid ((((Below.refl w.heap.size w).alloc (Nat.le_refl _) _).alloc (by simp) _).trans (hb3.mono (by omega))); clear hbp hp hb2 hb3 hbp' c0)))
    have H0 := H3
    have HB0 := Lib.hid (HB.out.trans ((Below.refl w.heap.size _).alloc (by omega) (.cells #[.pointer (some ⟨bh, 0, none⟩), .pointer (some ⟨w.heap.size + 1, 0, none⟩), .bool true, .string ⟨#[]⟩, .pointer (some ⟨bp, 0, none⟩), .pointer none] 87)))
    clear H3 c2 r1 HB hz hlt2 hm hs
    refine (appendKey_ok H0.out.st (by decide) keyLevel keyLevel_ok H0.out.safe H0.out.B0 (by have := KL.out; (try simp only [List.length_append]); (try simp only [List.length_cons]); (try simp only [List.length_nil]); omega)).mono ?_
    rintro e W1 ⟨rfl, hst, hb⟩
    have h := H0.out.next hst hb
    have H1 := Lib.hid h
    have HB1 := Lib.hid (HB0.out.trans (hb.mono (Nat.le_succ _)))
    obtain ⟨c1, c5, f5, d0, r0, r1, r2⟩ := h.cells
    clear h hst hb H0 HB0
    go_wp2_with (go_at_call 55; go_must (refine (string_any n hn0 hn1 _).mono ?_; rintro e w' ⟨rfl, rfl⟩))
    refine (appendString_ok H1.out.st (lvl n) (lvl_ok n hn0 hn1) H1.out.safe H1.out.B0 (by have := KL.out; (try simp only [List.length_append]); (try simp only [List.length_cons]); (try simp only [List.length_nil]); omega)).mono ?_
    rintro e W2 ⟨rfl, hst, hb⟩
    have h := H1.out.next hst hb
    have H2 := Lib.hid h
    have HB2 := Lib.hid (HB1.out.trans (hb.mono (Nat.le_succ _)))
    obtain ⟨c1, c5, f5, d0, r0, r1, r2⟩ := h.cells
    clear h hst hb H1 HB1
    go_wp2_with fail
    refine (appendKey_ok H2.out.st (sepOf_size _) keyMsg keyMsg_ok H2.out.safe H2.out.B0 (by have := KL.out; (try simp only [List.length_append]); (try simp only [List.length_cons]); (try simp only [List.length_nil]); omega)).mono ?_
    rintro e W3 ⟨rfl, hst, hb⟩
    have h := H2.out.next hst hb
    have H3 := Lib.hid h
    have HB3 := Lib.hid (HB2.out.trans (hb.mono (Nat.le_succ _)))
    obtain ⟨c1, c5, f5, d0, r0, r1, r2⟩ := h.cells
    clear h hst hb H2 HB2
    go_wp2_with fail
    refine (appendString_ok H3.out.st msg HM.out H3.out.safe H3.out.B0 (by have := KL.out; (try simp only [List.length_append]); (try simp only [List.length_cons]); (try simp only [List.length_nil]); omega)).mono ?_
    rintro e W4 ⟨rfl, hst, hb⟩
    have h := H3.out.next hst hb
    have H4 := Lib.hid h
    have HB4 := Lib.hid (HB3.out.trans (hb.mono (Nat.le_succ _)))
    obtain ⟨c1, c5, f5, d0, r0, r1, r2⟩ := h.cells
    clear h hst hb H3 HB3
    have HG := Lib.hid H4.out.setGroups
    have HBG := Lib.hid (HB4.out.setCell (p := ⟨w2.heap.size, 5, none⟩) (Nat.le_of_lt hlt3) (.pointer none))
    go_wp2_with fail
    refine (nonBuiltIns_none HG.out.st (by have := KL.out; (try simp only [List.length_append]); (try simp only [List.length_cons]); (try simp only [List.length_nil]); omega) msg n).mono ?_
    rintro e W5 ⟨rfl, hst, hb⟩
    have h := HG.out.next hst hb
    have H5 := Lib.hid h
    have HB5 := Lib.hid (HBG.out.trans (hb.mono (Nat.le_succ _)))
    obtain ⟨c1, c5, f5, d0, r0, r1, r2⟩ := h.cells
    clear h hst hb H4 HB4 HG HBG
    go_wp2_with fail
    refine (writeByte_st H5.out.st 10 (by have := KL.out; (try simp only [List.length_append]); (try simp only [if_true]); (try simp only [Bool.false_eq_true, if_false]); (try simp only [List.length_cons]); (try simp only [List.length_nil]); omega)).mono ?_
    rintro e W6 ⟨rfl, hst, hb⟩
    have h := H5.out.next hst hb
    have H6 := Lib.hid h
    have HB6 := Lib.hid (HB5.out.trans (hb.mono (Nat.le_succ _)))
    obtain ⟨c1, c5, f5, d0, r0, r1, r2⟩ := h.cells
    clear h hst hb H5 HB5
    obtain ⟨v, hv, hown⟩ := H6.out.st.b
    have e1 : W6.cell? ⟨w.heap.size + 1, 0, none⟩ = some v := hv.cell 0
    have hcv : (convert 65 9 v).run Tryz.prog W6 = .ok (.string ⟨(lineOf false n msg).toArray⟩) W6 := conv_own (l := lineOf false n msg) hown (by simp [lineOf])
    have HF := Lib.hid (free_deferred H6.out.st .returning)
    clear hv hown H6
    go_wp2_with fail
    refine leaves_cons (f := 41) (args := #[.pointer (some ⟨w2.heap.size, 0, none⟩)]) (by simp) (by simp [go_sem]) ?_
    refine HF.out.mono ?_
    rintro e u' w'' ⟨rfl, rfl, rfl⟩
    exact ⟨_, results_tmp rfl _ _ _, rfl, HB6.out⟩
  · have KL := Lib.hid (And.intro (keyOf_length true ⟨#[]⟩ keyLevel (by decide) (by decide)) (And.intro (keyOf_length true (sepOf true) keyMsg (sepOf_size _) (by decide)) (And.intro (strOf_length true (lvl n).data.toList) (And.intro (okS_size (lvl_ok n hn0 hn1)) (And.intro (strOf_length true msg.data.toList) (okS_size hm))))))
    go_enter_defers Tryz.func35, Tryz.ntmps35
    go_wp2_with (first | (go_at_call 51; go_must (refine (newBuffer_any _).mono ?_; rintro e w1 ⟨rfl, rfl⟩)) | (go_at_call 40; go_must (refine (newState_any _ _ _ _ _).mono ?_; rintro e w2 ⟨bp, hbp, rfl, hp, hb2⟩; have hb3 : Below (w.heap.size + 2) ((w.alloc (.cells #[.string msg, .int .i64 n, .slice none 0 0] 75)).alloc (.cells #[.slice none 0 0] 65)) w2 := (by simpa using hb2); have hbp' : w.heap.size + 2 ≤ bp := (by simpa using hbp); have H3 := Lib.hid (Hst.init HH.out HS.out hp hbp' hb3); have hz : w.heap.size + 2 ≤ w2.heap.size := (by have := hb3.size; simp at this; omega); have hlt2 : bh < w2.heap.size := (by omega); have hlt3 : w.heap.size < w2.heap.size := (by omega); have c2 : w2.cell? ⟨bh, 0, none⟩ = some (.bool true) := (by have := H3.out.st.h.cell 0; rwa [World.cell?_alloc_lt _ _ _ hlt2] at this); have r1 : w2.cell? ⟨w.heap.size, 1, none⟩ = some (.int .i64 n) := (by have := H3.out.r1; rwa [World.cell?_alloc_lt _ _ _ hlt3] at this); have HB := Lib.hid ((((Below.refl w.heap.size w).alloc (Nat.le_refl _) _).alloc (by simp) _).trans (hb3.mono (by omega))); clear hbp hp hb2 hb3 hbp' c0)))
    have H0 := H3
    have HB0 := Lib.hid (HB.out.trans ((Below.refl w.heap.size _).alloc (by omega) (.cells #[.pointer (some ⟨bh, 0, none⟩), .pointer (some ⟨w.heap.size + 1, 0, none⟩), .bool true, .string ⟨#[]⟩, .pointer (some ⟨bp, 0, none⟩), .pointer none] 87)))
    clear H3 c2 r1 HB hz hlt2 hm hs
    refine (writeByte_st H0.out.st 123 (by have := KL.out; (try simp only [List.length_append]); (try simp only [List.length_cons]); (try simp only [List.length_nil]); omega)).mono ?_
    rintro e W1 ⟨rfl, hst, hb⟩
    have h := H0.out.next hst hb
    have H1 := Lib.hid h
    have HB1 := Lib.hid (HB0.out.trans (hb.mono (Nat.le_succ _)))
    obtain ⟨c1, c5, f5, d0, r0, r1, r2⟩ := h.cells
    clear h hst hb H0 HB0
    have HG0 := Lib.hid H1.out.setGroups
    have HBG0 := Lib.hid (HB1.out.setCell (p := ⟨w2.heap.size, 5, none⟩) (Nat.le_of_lt hlt3) (.pointer none))
    clear H1 HB1
    have H1 := HG0
    have HB1 := HBG0
    clear HG0 HBG0
    go_wp2_with fail
    refine (appendKey_ok H1.out.st (by decide) keyLevel keyLevel_ok H1.out.safe H1.out.B0 (by have := KL.out; (try simp only [List.length_append]); (try simp only [List.length_cons]); (try simp only [List.length_nil]); omega)).mono ?_
    rintro e W2 ⟨rfl, hst, hb⟩
    have h := H1.out.next hst hb
    have H2 := Lib.hid h
    have HB2 := Lib.hid (HB1.out.trans (hb.mono (Nat.le_succ _)))
    obtain ⟨c1, c5, f5, d0, r0, r1, r2⟩ := h.cells
    clear h hst hb H1 HB1
    go_wp2_with (go_at_call 55; go_must (refine (string_any n hn0 hn1 _).mono ?_; rintro e w' ⟨rfl, rfl⟩))
    refine (appendString_ok H2.out.st (lvl n) (lvl_ok n hn0 hn1) H2.out.safe H2.out.B0 (by have := KL.out; (try simp only [List.length_append]); (try simp only [List.length_cons]); (try simp only [List.length_nil]); omega)).mono ?_
    rintro e W3 ⟨rfl, hst, hb⟩
    have h := H2.out.next hst hb
    have H3 := Lib.hid h
    have HB3 := Lib.hid (HB2.out.trans (hb.mono (Nat.le_succ _)))
    obtain ⟨c1, c5, f5, d0, r0, r1, r2⟩ := h.cells
    clear h hst hb H2 HB2
    go_wp2_with fail
    refine (appendKey_ok H3.out.st (sepOf_size _) keyMsg keyMsg_ok H3.out.safe H3.out.B0 (by have := KL.out; (try simp only [List.length_append]); (try simp only [List.length_cons]); (try simp only [List.length_nil]); omega)).mono ?_
    rintro e W4 ⟨rfl, hst, hb⟩
    have h := H3.out.next hst hb
    have H4 := Lib.hid h
    have HB4 := Lib.hid (HB3.out.trans (hb.mono (Nat.le_succ _)))
    obtain ⟨c1, c5, f5, d0, r0, r1, r2⟩ := h.cells
    clear h hst hb H3 HB3
    go_wp2_with fail
    refine (appendString_ok H4.out.st msg HM.out H4.out.safe H4.out.B0 (by have := KL.out; (try simp only [List.length_append]); (try simp only [List.length_cons]); (try simp only [List.length_nil]); omega)).mono ?_
    rintro e W5 ⟨rfl, hst, hb⟩
    have h := H4.out.next hst hb
    have H5 := Lib.hid h
    have HB5 := Lib.hid (HB4.out.trans (hb.mono (Nat.le_succ _)))
    obtain ⟨c1, c5, f5, d0, r0, r1, r2⟩ := h.cells
    clear h hst hb H4 HB4
    have HG := Lib.hid H5.out.setGroups
    have HBG := Lib.hid (HB5.out.setCell (p := ⟨w2.heap.size, 5, none⟩) (Nat.le_of_lt hlt3) (.pointer none))
    go_wp2_with fail
    refine (nonBuiltIns_none HG.out.st (by have := KL.out; (try simp only [List.length_append]); (try simp only [List.length_cons]); (try simp only [List.length_nil]); omega) msg n).mono ?_
    rintro e W6 ⟨rfl, hst, hb⟩
    have h := HG.out.next hst hb
    have H6 := Lib.hid h
    have HB6 := Lib.hid (HBG.out.trans (hb.mono (Nat.le_succ _)))
    obtain ⟨c1, c5, f5, d0, r0, r1, r2⟩ := h.cells
    clear h hst hb H5 HB5 HG HBG
    go_wp2_with fail
    refine (writeByte_st H6.out.st 10 (by have := KL.out; (try simp only [List.length_append]); (try simp only [if_true]); (try simp only [Bool.false_eq_true, if_false]); (try simp only [List.length_cons]); (try simp only [List.length_nil]); omega)).mono ?_
    rintro e W7 ⟨rfl, hst, hb⟩
    have h := H6.out.next hst hb
    have H7 := Lib.hid h
    have HB7 := Lib.hid (HB6.out.trans (hb.mono (Nat.le_succ _)))
    obtain ⟨c1, c5, f5, d0, r0, r1, r2⟩ := h.cells
    clear h hst hb H6 HB6
    obtain ⟨v, hv, hown⟩ := H7.out.st.b
    have e1 : W7.cell? ⟨w.heap.size + 1, 0, none⟩ = some v := hv.cell 0
    have hcv : (convert 65 9 v).run Tryz.prog W7 = .ok (.string ⟨(lineOf true n msg).toArray⟩) W7 := conv_own (l := lineOf true n msg) hown (by simp [lineOf])
    have HF := Lib.hid (free_deferred H7.out.st .returning)
    clear hv hown H7
    go_wp2_with fail
    refine leaves_cons (f := 41) (args := #[.pointer (some ⟨w2.heap.size, 0, none⟩)]) (by simp) (by simp [go_sem]) ?_
    refine HF.out.mono ?_
    rintro e u' w'' ⟨rfl, rfl, rfl⟩
    exact ⟨_, results_tmp rfl _ _ _, rfl, HB7.out⟩
end
end Go.Proofs.YtcllhgajdcemiaaGreatDoor.wk

namespace Go.Proofs.YtcllhgajdcemiaaGreatDoor.wk
open Go.RowKit

theorem attrs_nil (w : World) : Calls Tryz.prog 28 #[.slice none 0 0] w fun e w' => e = .returned (.slice none 0 0) ∧ w = w' := by
  go_enter Tryz.func28, Tryz.ntmps28
  go_wp2
  refine wp_loop_rounds 1 ?_
  rw [rounds_succ]
  go_wp2
  go_ret
  exact ⟨rfl, rfl⟩
theorem attrsOf_nil (w : World) : Calls Tryz.prog 33 #[.slice none 0 0] w fun e w' => e = .returned (.slice none 0 0) ∧ w = w' := by
  go_enter Tryz.func33, Tryz.ntmps33
  go_wp2
  refine wp_loop_rounds 1 ?_
  rw [rounds_succ]
  go_wp2
  go_ret
  exact ⟨rfl, rfl⟩
theorem addAttrs_nil (w : World) (a : Addr) : Calls Tryz.prog 34 #[.pointer (some a), .slice none 0 0] w fun e w' => e = .returned (.tuple #[]) ∧ w = w' := by
  go_enter Tryz.func34, Tryz.ntmps34
  go_wp2
  refine wp_loop_rounds 1 ?_
  rw [rounds_succ]
  go_wp2
  go_end0
  exact ⟨rfl, rfl⟩

set_option maxRecDepth 100000 in
set_option maxHeartbeats 2000000 in
theorem line_ok (w : World) (js : Bool) (n : Int) (msg : ByteArray) (hn0 : -4 ≤ n) (hn1 : n ≤ 8) (hm : okS msg) (hs : Safe w) (h0 : 0 < w.heap.size) :
    Calls Tryz.prog 27 #[.agg #[.int .i64 n, .string msg, .slice none 0 0, .slice none 0 0], .bool js] w fun e w' => e = .returned (.string ⟨(lineOf js n msg).toArray⟩) ∧ Below w.heap.size w w' := by
  have HS := Lib.hid hs
  clear hs
  go_enter Tryz.func27, Tryz.ntmps27
  go_wp2
  refine wp_loop_rounds 1 ?_
  rw [rounds_succ]
  go_wp2_with (first | (go_at_call 33; go_must (refine (attrsOf_nil _).mono ?_; rintro e w1 ⟨rfl, rfl⟩)) | (go_at_call 34; go_must (refine (addAttrs_nil _ _).mono ?_; rintro e w1 ⟨rfl, rfl⟩)))
  have hB : Below w.heap.size w (((w.alloc (.cells #[.int .i64 n, .string msg, .slice none 0 0, .slice none 0 0] 49)).alloc (.cells #[.bool js, .slice none 0 0, .string ⟨#[]⟩, .slice none 0 0, .int .i64 0] 68)).alloc (.cells #[.string msg, .int .i64 n, .slice none 0 0] 75)) :=
    (((Below.refl _ w).alloc (Nat.le_refl _) _).alloc (by simp) _).alloc (by simp; omega) _
  have hh : Blk (((w.alloc (.cells #[.int .i64 n, .string msg, .slice none 0 0, .slice none 0 0] 49)).alloc (.cells #[.bool js, .slice none 0 0, .string ⟨#[]⟩, .slice none 0 0, .int .i64 0] 68)).alloc (.cells #[.string msg, .int .i64 n, .slice none 0 0] 75))
      (w.heap.size + 1) 68 #[.bool js, .slice none 0 0, .string ⟨#[]⟩, .slice none 0 0, .int .i64 0] := by
    refine Blk.alloc ?_ _
    have h := Blk.new (w.alloc (.cells #[.int .i64 n, .string msg, .slice none 0 0, .slice none 0 0] 49)) 68 #[.bool js, .slice none 0 0, .string ⟨#[]⟩, .slice none 0 0, .int .i64 0]
    simpa using h
  have k18 := Lib.hid (handle_ok _ (w.heap.size + 1) js n msg hh hn0 hn1 hm (HS.out.below hB h0))
  have HB := Lib.hid hB
  clear hB hh hm
  go_wp2_with (go_at_call 35; go_must (refine k18.out.mono ?_; rintro e w1 ⟨rfl, hb1⟩))
  go_ret
  exact ⟨rfl, HB.out.trans (hb1.mono (by simp; omega))⟩

set_option maxRecDepth 100000 in
set_option maxHeartbeats 2000000 in
theorem log_ok (w : World) (n : Int) (msg : ByteArray) :
    Calls Tryz.prog 20 #[.agg #[.int .i64 n, .string msg, .slice none 0 0, .slice none 0 0]] w fun e w' => e = .returned (.agg #[.int .i64 n, .string msg, .slice none 0 0, .slice none 0 0]) ∧ Below w.heap.size w w' := by
  go_enter Tryz.func20, Tryz.ntmps20
  go_wp2_with fail
  go_region_held3 (fun w' => w'.cell? ⟨w.heap.size, 0, none⟩ = some (.int .i64 n) ∧ w'.cell? ⟨w.heap.size, 1, none⟩ = some (.string msg) ∧ w'.cell? ⟨w.heap.size, 3, none⟩ = some (.slice none 0 0))
    (go_keep)
    ((go_at_call 28; refine (attrs_nil _).mono ?_; rintro e w1 ⟨rfl, rfl⟩))
  all_goals
    go_wp2
    refine wp_loop_rounds 1 ?_
    rw [rounds_succ]
    go_wp2
    refine bodyPost_ret (v := .agg #[.int .i64 n, .string msg, .slice none 0 0, .slice none 0 0]) (by simp [results, Tryz.results20, go_sem]) rfl ⟨rfl, ?_⟩
    exact ((((Below.refl _ w).alloc (Nat.le_refl _) _).alloc (by simp) _).alloc (by simp; omega) _).drew

/-- a line, from the thin package's own types. -/
def Gives (w : World) (js : Bool) (n : Int) (msg : ByteArray) (e : Ending) (w' : World) : Prop := e = .returned (.string ⟨(lineOf js n msg).toArray⟩) ∧ Below w.heap.size w w'

theorem textLine_ok (w : World) (n : Int) (msg : ByteArray) (hn0 : -4 ≤ n) (hn1 : n ≤ 8) (hm : okS msg) (hs : Safe w) (h0 : 0 < w.heap.size) :
    Calls Tryz.prog 24 #[.agg #[.int .i64 n, .string msg, .slice none 0 0, .slice none 0 0]] w (Gives w false n msg) := by
  have HS := Lib.hid hs
  have HM := Lib.hid hm
  clear hs hm
  go_enter Tryz.func24, Tryz.ntmps24
  go_wp2_with (first | (go_at_call 20; go_must (refine (log_ok _ n msg).mono ?_; rintro e w1 ⟨rfl, hb1⟩)) | (go_at_call 29; go_in))
  have hB : Below w.heap.size w (w1.alloc (.cells #[.int .i64 n, .string msg, .slice none 0 0, .slice none 0 0] 49)) :=
    (((Below.refl _ w).alloc (Nat.le_refl _) _).trans (hb1.mono (by simp))).alloc (by have := hb1.size; simp at this; omega) _
  have k11 := Lib.hid (line_ok _ false n msg hn0 hn1 HM.out (HS.out.below hB h0) (by simp))
  have HB := Lib.hid hB
  clear hb1 hB
  go_wp2_with (go_at_call 27; go_must (refine k11.out.mono ?_; rintro e w2 ⟨rfl, hb2⟩))
  go_ret
  exact ⟨rfl, HB.out.trans (hb2.mono HB.out.size)⟩

theorem jsonLine_ok (w : World) (n : Int) (msg : ByteArray) (hn0 : -4 ≤ n) (hn1 : n ≤ 8) (hm : okS msg) (hs : Safe w) (h0 : 0 < w.heap.size) :
    Calls Tryz.prog 8 #[.agg #[.int .i64 n, .string msg, .slice none 0 0, .slice none 0 0]] w (Gives w true n msg) := by
  have HS := Lib.hid hs
  have HM := Lib.hid hm
  clear hs hm
  go_enter Tryz.func8, Tryz.ntmps8
  go_wp2_with (first | (go_at_call 20; go_must (refine (log_ok _ n msg).mono ?_; rintro e w1 ⟨rfl, hb1⟩)) | (go_at_call 19; go_in))
  have hB : Below w.heap.size w (w1.alloc (.cells #[.int .i64 n, .string msg, .slice none 0 0, .slice none 0 0] 49)) :=
    (((Below.refl _ w).alloc (Nat.le_refl _) _).trans (hb1.mono (by simp))).alloc (by have := hb1.size; simp at this; omega) _
  have k11 := Lib.hid (line_ok _ true n msg hn0 hn1 HM.out (HS.out.below hB h0) (by simp))
  have HB := Lib.hid hB
  clear hb1 hB
  go_wp2_with (go_at_call 27; go_must (refine k11.out.mono ?_; rintro e w2 ⟨rfl, hb2⟩))
  go_ret
  exact ⟨rfl, HB.out.trans (hb2.mono HB.out.size)⟩

def msgA : ByteArray := ⟨#[97]⟩
theorem msgA_ok : okS msgA := okS_of _ (by decide) (by decide) (by decide)
def preL : ByteArray := ⟨#[108, 101, 118, 101, 108, 61]⟩
def postL : ByteArray := ⟨#[32, 109, 115, 103, 61, 97, 10]⟩
theorem textA_eq (n : Int) (h0 : -4 ≤ n) (h1 : n ≤ 8) : (⟨(lineOf false n msgA).toArray⟩ : ByteArray) = ⟨#[108, 101, 118, 101, 108, 61]⟩ ++ lvl n ++ ⟨#[32, 109, 115, 103, 61, 97, 10]⟩ := by
  rcases cases13 n h0 h1 with rfl | rfl | rfl | rfl | rfl | rfl | rfl | rfl | rfl | rfl | rfl | rfl | rfl
  all_goals rfl
theorem textW_eq : (⟨(lineOf false 0 msgA).toArray⟩ : ByteArray) = ⟨#[108, 101, 118, 101, 108, 61, 73, 78, 70, 79, 32, 109, 115, 103, 61, 97, 10]⟩ := rfl
theorem jsonW_eq : (⟨(lineOf true 0 msgA).toArray⟩ : ByteArray) = ⟨#[123, 34, 108, 101, 118, 101, 108, 34, 58, 34, 73, 78, 70, 79, 34, 44, 34, 109, 115, 103, 34, 58, 34, 97, 34, 125, 10]⟩ := rfl

set_option maxRecDepth 100000 in
set_option maxHeartbeats 1000000 in
theorem works_ok (w : World) (hs : Safe w) (h0 : 0 < w.heap.size) : Calls Tryz.prog 11 #[] w fun e w' => e = .returned (.bool true) ∧ Below w.heap.size w w' := by
  have hB := (Below.refl w.heap.size w).alloc (Nat.le_refl _) (.cells #[.int .i64 0, .string ⟨#[97]⟩, .slice none 0 0, .slice none 0 0] 25)
  have k5 := Lib.hid (textLine_ok _ 0 msgA (by omega) (by omega) msgA_ok (hs.below hB h0) (by simp))
  have HS := Lib.hid hs
  have HB := Lib.hid hB
  clear hs hB
  go_enter Tryz.func11, Tryz.ntmps11
  go_wp2_with (first | (go_at_call 24; go_must (refine k5.out.mono ?_; rintro e w1 ⟨rfl, hb1⟩; rw [textW_eq]; have hB1 := HB.out.trans (hb1.mono (by simp)); have k10 := Lib.hid (jsonLine_ok _ 0 msgA (by omega) (by omega) msgA_ok (HS.out.below hB1 h0) (by have := hB1.size; omega)); have c0 : w1.cell? ⟨w.heap.size, 0, none⟩ = some (.int .i64 0) := (hb1.cell (by simp)).trans (by simp); have c1 : w1.cell? ⟨w.heap.size, 1, none⟩ = some (.string ⟨#[97]⟩) := (hb1.cell (by simp)).trans (by simp); have c2 : w1.cell? ⟨w.heap.size, 2, none⟩ = some (.slice none 0 0) := (hb1.cell (by simp)).trans (by simp); have c3 : w1.cell? ⟨w.heap.size, 3, none⟩ = some (.slice none 0 0) := (hb1.cell (by simp)).trans (by simp); have HB1 := Lib.hid hB1; clear hb1 hB1)) | (go_at_call 8; go_must (refine k10.out.mono ?_; rintro e w2 ⟨rfl, hb2⟩; rw [jsonW_eq])))
  go_ret
  exact ⟨rfl, HB1.out.trans (hb2.mono HB1.out.size)⟩
end Go.Proofs.YtcllhgajdcemiaaGreatDoor.wk
