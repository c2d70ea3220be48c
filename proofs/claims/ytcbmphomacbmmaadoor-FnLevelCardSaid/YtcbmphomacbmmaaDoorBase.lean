/-
  Words for memory (a block known whole, a buffer of bytes) and the contracts of Buffer.WriteString, Buffer.WriteByte, attrSep. Conditions: the buffer's bytes and what is appended take at most 2^47 bytes.
-/
import Derived.Test.YtcbmphomacbmmaaDoorProg
import Derived.WalkKit
import Derived.Below
import Derived.Laws.OwnMore
import Derived.Deep.Draws
import Derived.Laws.Rows
import Derived.Lib.AppendStr
import Derived.Lib.Hide
import Derived.OwnWalk
import Derived.WalkSpells
namespace Go.Proofs.YtcbmphomacbmmaaDoor
open Go.RowKit

/-! ## A block that is known whole (the kit's page extra-words.md, section 2) -/
def Blk (w : World) (g : Nat) (t : TypeId) (cs : Array Value) : Prop := w.heap[g]? = some (.cells cs t (0, 0))

section
variable {w w' : World} {g : Nat} {t : TypeId} {cs : Array Value}
theorem Blk.lt (h : Blk w g t cs) : g < w.heap.size := by
  rcases Nat.lt_or_ge g w.heap.size with hlt | hge
  · exact hlt
  · unfold Blk at h; rw [Array.getElem?_eq_none hge] at h; cases h
theorem Blk.cell (h : Blk w g t cs) (i : Nat) : w.cell? ⟨g, i, none⟩ = cs[i]? := cell_of_row w g i cs t (0, 0) h
theorem Blk.frozen (h : Blk w g t cs) (i : Nat) : w.frozen? ⟨g, i, none⟩ = false := by
  unfold Blk at h
  simp [World.frozen?, h]
theorem Blk.new (w : World) (t : TypeId) (cs : Array Value) : Blk (w.alloc (.cells cs t)) w.heap.size t cs := heap_alloc_new w _
theorem Blk.drew (h : Blk w g t cs) : Blk w.drew g t cs := h
theorem Blk.drewN (h : Blk w g t cs) (n : Nat) : Blk (w.drewN n) g t cs := h
theorem Blk.alloc (h : Blk w g t cs) (o : Obj) : Blk (w.alloc o) g t cs := (Below.heap_alloc w o g h.lt).trans h
theorem Blk.set_ (h : Blk w g t cs) (i : Nat) (u : Value) : Blk (w.setCell ⟨g, i, none⟩ u) g t (cs.setIfInBounds i u) := by
  unfold Blk at h ⊢
  simp [World.setCell, Array.getElem?_modify, h]
theorem Blk.far (h : Blk w g t cs) {p : Addr} (hp : g ≠ p.block) (u : Value) : Blk (w.setCell p u) g t cs := (Below.heap_setCell w p u g hp).trans h
theorem Blk.below {B : Nat} (h : Blk w g t cs) (hb : Below B w w') (hg : g < B) : Blk w' g t cs := (hb.block g hg).trans h
theorem Blk.grown {row : Option Nat} (h : Blk w g t cs) (hb : w.grownBy w' row) (hg : some g ≠ row) : Blk w' g t cs := (hb.block g h.lt hg).trans h
theorem Blk.ne_ {g' : Nat} {t' : TypeId} {cs' : Array Value} (h : Blk w g t cs) (h' : Blk w g' t' cs') (hne : t ≠ t') : g ≠ g' := by
  rintro rfl
  unfold Blk at h h'
  rw [h] at h'
  injection h' with h'
  injection h' with _ ht
  exact hne ht
theorem own_blk_ne {base : Nat} {e : TypeId} {size n : Nat} {v : Value} {xs : List Value} (h : w.ownsRow base e size v n xs) (hg : Blk w g t cs) (hne : e ≠ t) : v.ownBlock ≠ some g := by
  rcases h.2 with ⟨rfl, _⟩ | ⟨g', cap, cur, rfl, _, hh, _⟩
  · simp [Value.ownBlock]
  · intro he
    have : g' = g := by simpa [Value.ownBlock] using he
    subst this
    exact Blk.ne_ (t := e) hh hg hne rfl
end

theorem own_form {w : World} {base : Nat} {e : TypeId} {size n : Nat} {v : Value} {xs : List Value} (h : w.ownsRow base e size v n xs) : ∃ A c, v = .slice A n c := by
  rcases h.2 with ⟨rfl, rfl⟩ | ⟨g, cap, cur, rfl, _⟩
  · exact ⟨_, _, rfl⟩
  · exact ⟨_, _, rfl⟩

/-! ## The buffer of bytes -/
def bytesOf (l : List UInt8) : List Value := l.map fun b => Value.int .u8 b.toNat
theorem bytesOf_append (a b : List UInt8) : bytesOf (a ++ b) = bytesOf a ++ bytesOf b := by simp [bytesOf]
theorem bytesOf_length (a : List UInt8) : (bytesOf a).length = a.length := by simp [bytesOf]
theorem strCells_bytesOf (s : ByteArray) : Lib.strCells s = bytesOf s.data.toList := rfl

/-- the variable at block bb (type Buffer, 44) holds a slice that owns the bytes l, in a row from block B on. -/
def Buf (w : World) (B bb : Nat) (l : List UInt8) : Prop := ∃ v, Blk w bb 44 #[v] ∧ w.ownsRow B 5 1 v l.length (bytesOf l)

theorem info5 : (Tryd.prog.info? 5).map (fun i => (i.zero, i.size, i.bytes)) = some (some (.int .u8 0), 1, 1) := by kernel_rfl

/-- what a write to the buffer leaves: the world w1 (new blocks, the row) with the new slice stored. -/
def Wrote (w : World) (B bb : Nat) (v : Value) (l : List UInt8) (w' : World) : Prop :=
  ∃ w1 v', w' = w1.setCell ⟨bb, 0, none⟩ v' ∧ w.grownBy w1 v.ownBlock ∧ w1.ownsRow B 5 1 v' l.length (bytesOf l)

set_option maxHeartbeats 400000 in
theorem writeString_any (w : World) (B bb : Nat) (v : Value) (l : List UInt8) (s : ByteArray) (hb : Blk w bb 44 #[v]) (hown : w.ownsRow B 5 1 v l.length (bytesOf l)) (hB : B ≤ w.heap.size)
    (hlen : l.length + s.size ≤ 140737488355328) :
    Calls Tryd.prog 23 #[.pointer (some ⟨bb, 0, none⟩), .string s] w fun e w' => e = .returned (.tuple #[.int .i64 s.size, .nilIface]) ∧ Wrote w B bb v (l ++ s.data.toList) w' := by
  obtain ⟨i0, hi, hz0, hz1, hz2⟩ := info_parts info5
  have hc : w.cell? ⟨bb, 0, none⟩ = some v := hb.cell 0
  go_enter Tryd.func23, Tryd.ntmps23
  go_wp2_with (at_builtin; go_must (refine Lib.wpList_append_own_string _ rfl _ _ _ _ rfl B 5 i0 Tryd.underlying44 Tryd.underlying9 hi hz0 hz1 hz2 v l.length (bytesOf l) rfl hown s rfl (by unfold maxLen; omega) hlen hB ?_))
  intro v' w1 hown' hg _
  obtain ⟨A', c', rfl⟩ := own_form hown'
  have hb1 : Blk w1 bb 44 #[v] := hb.grown hg (own_blk_ne hown hb (by decide)).symm
  have hc1 : w1.cell? ⟨bb, 0, none⟩ = some v := hb1.cell 0
  have hf1 : w1.frozen? ⟨bb, 0, none⟩ = false := hb1.frozen 0
  have HO := Lib.hid hown'
  have HG := Lib.hid hg
  clear hown' hg hown hb hb1 hc hlen hB hi hz0 hz1 hz2
  go_wp2
  go_ret2
  refine ⟨rfl, w1, _, rfl, HG.out, ?_⟩
  have := HO.out
  rw [strCells_bytesOf, ← bytesOf_append] at this
  rw [show (l ++ s.data.toList).length = l.length + s.size by rw [List.length_append, Array.length_toList]; rfl]
  exact this

set_option maxHeartbeats 400000 in
theorem writeByte_any (w : World) (B bb : Nat) (v : Value) (l : List UInt8) (c : UInt8) (hb : Blk w bb 44 #[v]) (hown : w.ownsRow B 5 1 v l.length (bytesOf l)) (hB : B ≤ w.heap.size)
    (hlen : l.length + 1 ≤ 140737488355328) :
    Calls Tryd.prog 33 #[.pointer (some ⟨bb, 0, none⟩), .int .u8 c.toNat] w fun e w' => e = .returned .nilIface ∧ Wrote w B bb v (l ++ [c]) w' := by
  obtain ⟨i0, hi, hz0, hz1, hz2⟩ := info_parts info5
  have hc : w.cell? ⟨bb, 0, none⟩ = some v := hb.cell 0
  go_enter Tryd.func33, Tryd.ntmps33
  go_wp2_with (at_builtin; go_must (refine wpList_append_own _ rfl _ _ 44 rfl B 5 i0 (.int .u8 0) 1 1 Tryd.underlying44 hi hz0 hz1 hz2 rfl (by decide) v l.length (bytesOf l) rfl (hown.alloc _) ⟨w.heap.size, 0, none⟩ 1 1 [.int .u8 c.toNat] rfl rfl ?c1 ?c2 ?c3 ?c4 ?c5 ?_))
  case c1 =>
    intro j u hj
    match j, hj with
    | 0, hj => simp at hj; subst hj; simp [Addr.add]
  case c2 => intro u hu; simp at hu; subst hu; rfl
  case c3 => unfold maxLen; omega
  case c4 => omega
  case c5 => simp; omega
  intro v' w1 hown' hg0 _
  have hg : w.grownBy w1 v.ownBlock := ⟨hg0.os, hg0.tape, hg0.output, Nat.le_trans (by simp) hg0.size, fun k hk hne => (hg0.block k (by simp; omega) hne).trans (Below.heap_alloc w _ k hk)⟩
  obtain ⟨A', c', rfl⟩ := own_form hown'
  have hb1 : Blk w1 bb 44 #[v] := hb.grown hg (own_blk_ne hown hb (by decide)).symm
  have hc1 : w1.cell? ⟨bb, 0, none⟩ = some v := hb1.cell 0
  have hf1 : w1.frozen? ⟨bb, 0, none⟩ = false := hb1.frozen 0
  have HO := Lib.hid hown'
  have HG := Lib.hid hg
  clear hown' hg hg0 hown hb hb1 hc hlen hB hi hz0 hz1 hz2
  go_wp2
  go_ret
  refine ⟨rfl, w1, _, rfl, HG.out, ?_⟩
  have := HO.out
  rw [List.length_append, bytesOf_append]
  exact this
end Go.Proofs.YtcbmphomacbmmaaDoor
