/-
  Gst: The JSON handler's state in memory, with groups and preformatted attributes: the buffer is a variable of its own (handle) or a field of the handler (withAttrs). Contracts of WriteString, WriteByte, Write, Len. Conditions: at most 2^47 bytes.
  Gkey: appendString, appendKey, appendValue of the JSON handler at every string. Conditions: the prefix is empty (as it always is in JSON); the tables as their initialisers lay them; the bytes stay below 2^46.
  Tree: The package's attributes in memory (type 102: key, kind, text, attributes), as the print's words tell such trees (the lines for type 34, turned), and what the JSON handler writes of them: outA, outL.
  Gsmall: The small functions of the package's attributes (Kind, Resolve, Group, group, isEmpty, isEmptyGroup), and openGroup, closeGroup of the JSON handler. Conditions: those of appendKey.
-/
import Derived.Test.YtcllhgajdcemiaaGreatDoorEsc
import Derived.StillTailTactics
import Derived.Deep.RegionWith
import Derived.Deep.RegionHeld3
import Derived.Deep.QuietTactic
import Derived.BigQuiet
import Derived.Test.YtcllhgajdcemiaaGreatDoorWk
import Derived.Test.YtcllhgajdcemiaaGreatDoorWd
import Derived.WalkSpells
namespace Go.Proofs.YtcllhgajdcemiaaGreatDoor.jb
open Go.RowKit
open Go.Proofs.YtcllhgajdcemiaaGreatDoor.wk (Blk bytesOf bytesOf_append bytesOf_length own_form own_blk_ne)

/-- where the buffer is: a variable of its own (block bb; the handler's own field holds pv), or the handler's field. -/
inductive Md where
  | own (bb : Nat) (pv : Value)
  | field
def Md.ab : Md → Nat → Addr
  | .own bb _, _ => ⟨bb, 0, none⟩
  | .field, bh => ⟨bh, 1, none⟩
def Md.H (w : World) (B bh bp : Nat) (gs : Value) (k : Int) (v : Value) : Md → Prop
  | .own bb pv => Blk w bb 65 #[v] ∧ bb ≠ bp ∧ B ≤ bb ∧ Blk w bh 68 #[.bool true, pv, .string ⟨#[]⟩, gs, .int .i64 k]
  | .field => Blk w bh 68 #[.bool true, v, .string ⟨#[]⟩, gs, .int .i64 k] ∧ B ≤ bh

/-- what a call on the state leaves as it was: the blocks below B, and every block of no type of the state's own. -/
structure Kp (B : Nat) (w w' : World) : Prop where
  b : Below B w w'
  k : ∀ {g t : Nat} {cs : Array Value}, Blk w g t cs → (t ≠ 5 ∧ t ≠ 65 ∧ t ≠ 68 ∧ t ≠ 87) → Blk w' g t cs
theorem Kp.refl (B : Nat) (w : World) : Kp B w w := ⟨Below.refl B w, fun h _ => h⟩
theorem Kp.trans {B : Nat} {w w1 w2 : World} (h : Kp B w w1) (k : Kp B w1 w2) : Kp B w w2 := ⟨h.b.trans k.b, fun hb ht => k.k (h.k hb ht) ht⟩
theorem Kp.drew {B : Nat} {w w1 : World} (h : Kp B w w1) : Kp B w w1.drew := ⟨h.b.drew, fun hb ht => h.k hb ht⟩
theorem Kp.of_below {B : Nat} {w w1 : World} (h : Below w.heap.size w w1) (hB : B ≤ w.heap.size) : Kp B w w1 := ⟨h.mono hB, fun hb _ => hb.below h hb.lt⟩
theorem Kp.of_fr {B : Nat} {w w1 : World} (h : Fr B w w1) (hB : B ≤ w.heap.size) : Kp B w w1 := ⟨h.toBelow hB, fun hb ht => h.blk hb ht.1⟩
theorem Kp.set_ {B : Nat} {w w1 : World} {p : Addr} {t : Nat} {cs : Array Value} (h : Kp B w w1) (hp : Blk w1 p.block t cs) (ht : t = 65 ∨ t = 68 ∨ t = 87) (hlo : B ≤ p.block) (v : Value) : Kp B w (w1.setCell p v) :=
  ⟨h.b.setCell hlo v, fun hb hn => (h.k hb hn).far ((h.k hb hn).ne_ hp (by rcases ht with rfl | rfl | rfl; exact hn.2.1; exact hn.2.2.1; exact hn.2.2.2)) v⟩

structure Gst (w : World) (B : Nat) (m : Md) (bh bs bp : Nat) (gs : Value) (k : Int) (fb : Bool) (sep : ByteArray) (bl : List UInt8) : Prop where
  s : Blk w bs 87 #[.pointer (some ⟨bh, 0, none⟩), .pointer (some (m.ab bh)), .bool fb, .string sep, .pointer (some ⟨bp, 0, none⟩), .pointer none]
  p : Blk w bp 65 #[.slice none 0 0]
  h : ∃ A n c, m.H w B bh bp gs k (.slice A n c) ∧ Bf w B (.slice A n c) bl
  los : B ≤ bs
  lop : B ≤ bp
  hz : B ≤ w.heap.size

section
variable {w w' w1 : World} {B bh bs bp : Nat} {m : Md} {gs v : Value} {k : Int} {fb : Bool} {sep sep' : ByteArray} {bl bl' : List UInt8}

theorem Md.H.fr (h : m.H w B bh bp gs k v) (hf : Fr B w w') : m.H w' B bh bp gs k v := by
  cases m with
  | own bb pv => exact ⟨hf.blk h.1 (by decide), h.2.1, h.2.2.1, hf.blk h.2.2.2 (by decide)⟩
  | field => exact ⟨hf.blk h.1 (by decide), h.2⟩
theorem Md.H.below (h : m.H w B bh bp gs k v) (hb : Below w.heap.size w w') : m.H w' B bh bp gs k v := h.fr (Fr.of_below hb)
theorem Md.H.cell (h : m.H w B bh bp gs k v) : w.cell? (m.ab bh) = some v := by
  cases m with
  | own bb pv => exact h.1.cell 0
  | field => exact h.1.cell 1
theorem Md.H.frozen (h : m.H w B bh bp gs k v) : w.frozen? (m.ab bh) = false := by
  cases m with
  | own bb pv => exact h.1.frozen 0
  | field => exact h.1.frozen 1
theorem Md.H.json (h : m.H w B bh bp gs k v) : w.cell? ⟨bh, 0, none⟩ = some (.bool true) ∧ w.cell? ⟨bh, 2, none⟩ = some (.string ⟨#[]⟩) ∧ w.cell? ⟨bh, 3, none⟩ = some gs ∧ w.cell? ⟨bh, 4, none⟩ = some (.int .i64 k) := by
  cases m with
  | own bb pv => exact ⟨h.2.2.2.cell 0, h.2.2.2.cell 2, h.2.2.2.cell 3, h.2.2.2.cell 4⟩
  | field => exact ⟨h.1.cell 0, h.1.cell 2, h.1.cell 3, h.1.cell 4⟩
/-- a block of type 68 or 65: the buffer's own place. -/
theorem Md.H.place (h : m.H w B bh bp gs k v) : ∃ t cs, Blk w (m.ab bh).block t cs ∧ (t = 65 ∨ t = 68) ∧ B ≤ (m.ab bh).block := by
  cases m with
  | own bb pv => exact ⟨65, _, h.1, .inl rfl, h.2.2.1⟩
  | field => exact ⟨68, _, h.1, .inr rfl, h.2⟩
theorem Md.H.spot (m : Md) (bh : Nat) : m.ab bh = ⟨(m.ab bh).block, (m.ab bh).off, none⟩ := by cases m <;> rfl
theorem Md.H.put (h : m.H w B bh bp gs k v) (v' : Value) : m.H (w.setCell (m.ab bh) v') B bh bp gs k v' := by
  cases m with
  | own bb pv =>
    refine ⟨?_, h.2.1, h.2.2.1, h.2.2.2.far (p := ⟨bb, 0, none⟩) (h.2.2.2.ne_ h.1 (by decide)) v'⟩
    have := h.1.set_ 0 v'
    simpa [Md.ab] using this
  | field =>
    refine ⟨?_, h.2⟩
    have := h.1.set_ 1 v'
    simpa [Md.ab] using this
theorem Md.H.far (h : m.H w B bh bp gs k v) {g t : Nat} {cs : Array Value} (hb : Blk w g t cs) (ht : t ≠ 65) (ht' : t ≠ 68) (i : Nat) (u : Value) : m.H (w.setCell ⟨g, i, none⟩ u) B bh bp gs k v := by
  cases m with
  | own bb pv => exact ⟨h.1.far (p := ⟨g, i, none⟩) (h.1.ne_ hb (Ne.symm ht)) u, h.2.1, h.2.2.1, h.2.2.2.far (p := ⟨g, i, none⟩) (h.2.2.2.ne_ hb (Ne.symm ht')) u⟩
  | field => exact ⟨h.1.far (p := ⟨g, i, none⟩) (h.1.ne_ hb (Ne.symm ht')) u, h.2⟩
theorem Md.H.ne_p (h : m.H w B bh bp gs k v) (hp : Blk w bp 65 #[.slice none 0 0]) : bp ≠ (m.ab bh).block := by
  cases m with
  | own bb pv => exact Ne.symm h.2.1
  | field => exact hp.ne_ h.1 (by decide)

theorem Gst.drew (h : Gst w B m bh bs bp gs k fb sep bl) : Gst w.drew B m bh bs bp gs k fb sep bl := ⟨h.s, h.p, h.h, h.los, h.lop, h.hz⟩
theorem Gst.below (h : Gst w B m bh bs bp gs k fb sep bl) (hb : Below w.heap.size w w') : Gst w' B m bh bs bp gs k fb sep bl := by
  obtain ⟨A, n, c, h1, h2⟩ := h.h
  exact ⟨h.s.below hb h.s.lt, h.p.below hb h.p.lt, ⟨A, n, c, h1.below hb, h2.below hb h.hz⟩, h.los, h.lop, Nat.le_trans h.hz hb.size⟩
/-- the new slice stored. -/
theorem Gst.put {A : Option Addr} {n c : Nat} (h : Gst w B m bh bs bp gs k fb sep bl) (hf : Fr B w w1) (hb : Bf w1 B (.slice A n c) bl') :
    Gst (w1.setCell (m.ab bh) (.slice A n c)) B m bh bs bp gs k fb sep bl' ∧ Kp B w (w1.setCell (m.ab bh) (.slice A n c)) := by
  obtain ⟨A0, n0, c0, h1, h2⟩ := h.h
  have k1 := h1.fr hf
  have hs1 := hf.blk h.s (by decide)
  have hp1 := hf.blk h.p (by decide)
  obtain ⟨t, cs, hpl, ht, hlo⟩ := k1.place
  have hsp := Md.H.spot m bh
  refine ⟨⟨hs1.far (by rcases ht with rfl | rfl <;> exact hs1.ne_ hpl (by decide)) _, hp1.far (k1.ne_p hp1) _, ⟨A, n, c, k1.put _, ?_⟩, h.los, h.lop, ?_⟩, (Kp.of_fr hf h.hz).set_ hpl (by rcases ht with rfl | rfl <;> decide) hlo _⟩
  · rw [hsp]
    exact hb.set_ hpl (by rcases ht with rfl | rfl <;> decide) hlo _ _
  · have := hf.size
    have := h.hz
    simp [World.setCell]
    omega
theorem Gst.setSep (h : Gst w B m bh bs bp gs k fb sep bl) (sep' : ByteArray) : Gst (w.setCell ⟨bs, 3, none⟩ (.string sep')) B m bh bs bp gs k fb sep' bl ∧ Kp B w (w.setCell ⟨bs, 3, none⟩ (.string sep')) := by
  obtain ⟨A, n, c, h1, h2⟩ := h.h
  refine ⟨⟨?_, h.p.far (p := ⟨bs, 3, none⟩) (h.p.ne_ h.s (by decide)) _, ⟨A, n, c, h1.far h.s (by decide) (by decide) 3 _, h2.set_ h.s (by decide) h.los 3 _⟩, h.los, h.lop, by simpa [World.setCell] using h.hz⟩, (Kp.refl B w).set_ (p := ⟨bs, 3, none⟩) h.s (by decide) h.los _⟩
  have := h.s.set_ 3 (.string sep')
  simpa using this
theorem Gst.setGroups (h : Gst w B m bh bs bp gs k fb sep bl) : Gst (w.setCell ⟨bs, 5, none⟩ (.pointer none)) B m bh bs bp gs k fb sep bl ∧ Kp B w (w.setCell ⟨bs, 5, none⟩ (.pointer none)) := by
  obtain ⟨A, n, c, h1, h2⟩ := h.h
  refine ⟨⟨?_, h.p.far (p := ⟨bs, 5, none⟩) (h.p.ne_ h.s (by decide)) _, ⟨A, n, c, h1.far h.s (by decide) (by decide) 5 _, h2.set_ h.s (by decide) h.los 5 _⟩, h.los, h.lop, by simpa [World.setCell] using h.hz⟩, (Kp.refl B w).set_ (p := ⟨bs, 5, none⟩) h.s (by decide) h.los _⟩
  have := h.s.set_ 5 (.pointer none)
  simpa using this

/-- the loads of a state, for the walk. -/
theorem Gst.cells (h : Gst w B m bh bs bp gs k fb sep bl) :
    w.cell? ⟨bs, 0, none⟩ = some (.pointer (some ⟨bh, 0, none⟩)) ∧ w.cell? ⟨bs, 1, none⟩ = some (.pointer (some (m.ab bh))) ∧ w.cell? ⟨bs, 3, none⟩ = some (.string sep) ∧
    w.cell? ⟨bs, 4, none⟩ = some (.pointer (some ⟨bp, 0, none⟩)) ∧ w.cell? ⟨bs, 5, none⟩ = some (.pointer none) ∧ w.cell? ⟨bh, 0, none⟩ = some (.bool true) ∧ w.cell? ⟨bp, 0, none⟩ = some (.slice none 0 0) ∧
    w.frozen? ⟨bs, 3, none⟩ = false ∧ w.cell? ⟨bh, 3, none⟩ = some gs ∧ w.cell? ⟨bh, 4, none⟩ = some (.int .i64 k) ∧ w.cell? ⟨bh, 2, none⟩ = some (.string ⟨#[]⟩) := by
  obtain ⟨A, n, c, h1, h2⟩ := h.h
  exact ⟨h.s.cell 0, h.s.cell 1, h.s.cell 3, h.s.cell 4, h.s.cell 5, h1.json.1, h.p.cell 0, h.s.frozen 3, h1.json.2.2.1, h1.json.2.2.2, h1.json.2.1⟩

set_option maxHeartbeats 1000000 in
theorem writeString_g (h : Gst w B m bh bs bp gs k fb sep bl) (s : ByteArray) (hlen : bl.length + s.size ≤ 140737488355328) :
    Calls Tryz.prog 42 #[.pointer (some (m.ab bh)), .string s] w fun e w' => e = .returned (.tuple #[.int .i64 s.size, .nilIface]) ∧ Gst w' B m bh bs bp gs k fb sep (bl ++ s.data.toList) ∧ Kp B w w' := by
  obtain ⟨A, n, c0, h1, h2⟩ := h.h
  have hc : w.cell? (m.ab bh) = some (.slice A n c0) := h1.cell
  have hBr := h.hz
  have HH := Lib.hid h
  have H1 := Lib.hid h1
  clear h h1
  generalize hab : m.ab bh = ab at *
  have HA := Lib.hid hab
  clear hab
  go_enter Tryz.func42, Tryz.ntmps42
  go_wp2_with (at_builtin; go_must (refine wp_bf_string rfl _ _ _ rfl Tryz.underlying65 rfl h2 s rfl hBr hlen ?_))
  intro A' n' c' w1 hb1 hf1
  have k1 := H1.out.fr hf1
  have e1 : w1.cell? ab = some (.slice A n c0) := by rw [← HA.out]; exact k1.cell
  have e2 : w1.frozen? ab = false := by rw [← HA.out]; exact k1.frozen
  have HP := Lib.hid (Gst.put HH.out hf1 hb1)
  clear k1 hb1 hf1 h2 hc hlen hBr
  go_wp2
  go_ret2
  refine ⟨rfl, ?_⟩
  rw [← HA.out]
  exact HP.out

set_option maxHeartbeats 1000000 in
theorem writeByte_g (h : Gst w B m bh bs bp gs k fb sep bl) (c : UInt8) (hlen : bl.length + 1 ≤ 140737488355328) :
    Calls Tryz.prog 52 #[.pointer (some (m.ab bh)), .int .u8 c.toNat] w fun e w' => e = .returned .nilIface ∧ Gst w' B m bh bs bp gs k fb sep (bl ++ [c]) ∧ Kp B w w' := by
  obtain ⟨A, n, c0, h1, h2⟩ := h.h
  have hc : w.cell? (m.ab bh) = some (.slice A n c0) := h1.cell
  have hba : Below w.heap.size w (w.alloc (.cells #[.int .u8 c.toNat] 5)) := (Below.refl _ _).alloc (Nat.le_refl _) _
  have hBr : B ≤ (w.alloc (.cells #[.int .u8 c.toNat] 5)).heap.size := by have := h.hz; simp; omega
  have HH := Lib.hid (And.intro (h.below hba) (Kp.of_below hba h.hz))
  have H1 := Lib.hid (h1.below hba)
  have h2a := h2.below hba h.hz
  clear h h1 h2 hba
  generalize hab : m.ab bh = ab at *
  have HA := Lib.hid hab
  clear hab
  go_enter Tryz.func52, Tryz.ntmps52
  go_wp2_with (at_builtin; go_must (refine wp_bf_slice rfl _ _ _ rfl Tryz.underlying65 rfl h2a ⟨w.heap.size, 0, none⟩ 1 [c] rfl (by simp) ?hc hBr hlen ?_))
  case hc =>
    intro j u hj
    match j, hj with
    | 0, hj => simp [wk.bytesOf] at hj; subst hj; simp [Addr.add]
  intro A' n' c' w1 hb1 hf1
  have k1 := H1.out.fr hf1
  have e1 : w1.cell? ab = some (.slice A n c0) := by rw [← HA.out]; exact k1.cell
  have e2 : w1.frozen? ab = false := by rw [← HA.out]; exact k1.frozen
  have HP := Lib.hid (Gst.put HH.out.1 hf1 hb1)
  clear k1 hb1 hf1 h2a hc hlen hBr
  go_wp2
  go_ret
  refine ⟨rfl, ?_⟩
  rw [← HA.out]
  exact ⟨HP.out.1, HH.out.2.trans HP.out.2⟩

theorem append_arg2 (t t2 ty : TypeId) (ht : Tryz.prog.underlying t = some (.slice 5)) (ht2 : Tryz.prog.underlying t2 = some (.slice 5)) (A : Option Addr) (n c : Nat) (x : Value) (w : World) :
    (Builtin.append_ #[t, t2] ty #[.slice A n c, x]).run Tryz.prog w = (Builtin.append_ #[t, t] ty #[.slice A n c, x]).run Tryz.prog w := by
  obtain ⟨i0, hi, hz0, hz1, hz2⟩ := info_parts wk.info5
  simp [Builtin.append_, run_underlying ht, run_underlying ht2, sizeOf, typeInfo, hi, hz1]
theorem wp_bf_slice2 {ops : Array Oper} {rest : List Oper} {op : Oper} {ac : Act} {Q : Exit → Act → World → Prop} (hgd : op.guard = none) (sl y : Operand) (t t2 : TypeId)
    (hop : op.op = .call { callee := .builtin .append, args := #[sl, y], argTypes := #[t, t2] }) (ht : Tryz.prog.underlying t = some (.slice 5)) (ht2 : Tryz.prog.underlying t2 = some (.slice 5)) (hs : ac.eval sl = v) (h : Bf w B v bl) (a : Addr) (c : Nat) (x : List UInt8) (hy : ac.eval y = .slice (some a) x.length c) (hx : 0 < x.length) (hc : ∀ j u, (bytesOf x)[j]? = some u → w.cell? (a.add j) = some u) (hB : B ≤ w.heap.size) (hlen : bl.length + x.length ≤ 140737488355328)
    (hk : ∀ A n c w', Bf w' B (.slice A n c) (bl ++ x) → Fr B w w' → wpList Tryz.prog ops Q rest (ac.put op.dst (.slice A n c)) w') : wpList Tryz.prog ops Q (op :: rest) ac w := by
  refine wpList_plain hgd fun K hK => ?_
  obtain ⟨A0, c0, rfl⟩ := h.form
  obtain ⟨A, n, c', w', hr, h2, h3⟩ := bf_append_slice t op.type ht h a c x hx hc hB hlen
  unfold Oper.wp execOp
  simp only [hop, resolve, invoke, builtin, Sem.run_bind, Sem.run_pure, Result.andThen_ok, List.map_toArray, List.map_cons, List.map_nil, hs, hy, append_arg2 t t2 op.type ht ht2, hr]
  exact hK _ _ (hk A n c' w' h2 h3)

set_option maxHeartbeats 1000000 in
theorem write_g (h : Gst w B m bh bs bp gs k fb sep bl) (a : Addr) (x : List UInt8) (c : Nat) (hx : 0 < x.length) (hcx : ∀ j u, (bytesOf x)[j]? = some u → w.cell? (a.add j) = some u) (hlen : bl.length + x.length ≤ 140737488355328) :
    Calls Tryz.prog 71 #[.pointer (some (m.ab bh)), .slice (some a) x.length c] w fun e w' => e = .returned (.tuple #[.int .i64 x.length, .nilIface]) ∧ Gst w' B m bh bs bp gs k fb sep (bl ++ x) ∧ Kp B w w' := by
  obtain ⟨A, n, c0, h1, h2⟩ := h.h
  have hc : w.cell? (m.ab bh) = some (.slice A n c0) := h1.cell
  have hBr := h.hz
  have HH := Lib.hid h
  have H1 := Lib.hid h1
  clear h h1
  generalize hab : m.ab bh = ab at *
  have HA := Lib.hid hab
  clear hab
  go_enter Tryz.func71, Tryz.ntmps71
  go_wp2_with (at_builtin; go_must (refine wp_bf_slice2 rfl _ _ _ _ rfl Tryz.underlying65 Tryz.underlying60 rfl h2 a c x rfl hx hcx hBr hlen ?_))
  intro A' n' c' w1 hb1 hf1
  have k1 := H1.out.fr hf1
  have e1 : w1.cell? ab = some (.slice A n c0) := by rw [← HA.out]; exact k1.cell
  have e2 : w1.frozen? ab = false := by rw [← HA.out]; exact k1.frozen
  have HP := Lib.hid (Gst.put HH.out hf1 hb1)
  clear k1 hb1 hf1 h2 hc hlen hBr hcx
  go_wp2
  go_ret2
  refine ⟨rfl, ?_⟩
  rw [← HA.out]
  exact HP.out

theorem len_g (h : Gst w B m bh bs bp gs k fb sep bl) : Calls Tryz.prog 44 #[.pointer (some (m.ab bh))] w fun e w' => e = .returned (.int .i64 bl.length) ∧ w = w' := by
  obtain ⟨A, n, c0, h1, h2⟩ := h.h
  have hc : w.cell? (m.ab bh) = some (.slice A n c0) := h1.cell
  obtain ⟨A1, c1, he⟩ := h2.form
  injection he with e1 e2 e3
  subst e2
  clear h h1 h2
  generalize m.ab bh = ab at *
  go_enter Tryz.func44, Tryz.ntmps44
  go_wp2
  go_ret
  exact ⟨rfl, rfl⟩
theorem attrSep_g (h : Gst w B m bh bs bp gs k fb sep bl) : Calls Tryz.prog 43 #[.pointer (some ⟨bh, 0, none⟩)] w fun e w' => e = .returned (.string ⟨#[44]⟩) ∧ w = w' :=
  (wk.attrSep_any w bh true h.cells.2.2.2.2.2.1).mono fun _ _ ⟨h1, h2⟩ => ⟨h1, h2⟩
end
end Go.Proofs.YtcllhgajdcemiaaGreatDoor.jb

namespace Go.Proofs.YtcllhgajdcemiaaGreatDoor.jb
open Go.RowKit
open Go.Proofs.YtcllhgajdcemiaaGreatDoor.wk (Blk bytesOf)

/-- a string as it is written. -/
def quo (s : ByteArray) : List UInt8 := 34 :: (escL s.data.toList ++ [34])
theorem quo_length (s : ByteArray) : (quo s).length ≤ 6 * s.size + 2 := by
  have h1 := esc_len s.data.toList
  have h2 : s.data.toList.length = s.size := Array.length_toList
  unfold quo
  rw [List.length_cons, List.length_append, List.length_singleton]
  omega

section
variable {w w' w1 : World} {B bh bs bp : Nat} {m : Md} {gs v : Value} {k : Int} {fb : Bool} {sep sep' : ByteArray} {bl bl' : List UInt8}

/-- appendEscapedJSONString on the state's own buffer: what the walk needs behind it, and the state once the result is stored. -/
theorem esc_g (h : Gst w B m bh bs bp gs k fb sep bl) (A : Option Addr) (n c : Nat) (h1 : m.H w B bh bp gs k (.slice A n c)) (h2 : Bf w B (.slice A n c) bl) (s : ByteArray) (hT : Tabs w) (hB6 : 6 ≤ B) (hlen : bl.length + 6 * s.size ≤ 70368744177664) :
    Calls Tryz.prog 66 #[.slice A n c, .string s] w fun e w' => ∃ A' n' c', e = .returned (.slice A' n' c') ∧ w'.cell? ⟨bs, 1, none⟩ = some (.pointer (some (m.ab bh))) ∧ w'.cell? (m.ab bh) = some (.slice A n c) ∧ w'.frozen? (m.ab bh) = false ∧
      Gst (w'.setCell (m.ab bh) (.slice A' n' c')) B m bh bs bp gs k fb sep (bl ++ escL s.data.toList) ∧ Kp B w (w'.setCell (m.ab bh) (.slice A' n' c')) := by
  refine (esc_any s w hT B _ bl h2 h.hz hB6 hlen).mono ?_
  rintro e w1 ⟨A', n', c', rfl, hb, hf⟩
  have k1 := h1.fr hf
  have hs1 := hf.blk h.s (by decide)
  have hp := Gst.put h hf hb
  exact ⟨A', n', c', rfl, hs1.cell 1, k1.cell, k1.frozen, hp.1, hp.2⟩

set_option maxRecDepth 100000 in
set_option maxHeartbeats 2000000 in
theorem appendString_g (h : Gst w B m bh bs bp gs k fb sep bl) (s : ByteArray) (hT : Tabs w) (hB6 : 6 ≤ B) (hlen : bl.length + 6 * s.size + 2 ≤ 70368744177664) :
    Calls Tryz.prog 54 #[.pointer (some ⟨bs, 0, none⟩), .string s] w fun e w' => e = .returned (.tuple #[]) ∧ Gst w' B m bh bs bp gs k fb sep (bl ++ quo s) ∧ Kp B w w' := by
  obtain ⟨c0, c1, c3, c4, c5, d0, p0, f3, _⟩ := h.cells
  have k52 := Lib.hid (writeByte_g h 34 (by omega))
  have HL := Lib.hid hlen
  have HT := Lib.hid hT
  clear h hlen hT
  generalize hab : m.ab bh = ab at c1
  rw [hab] at k52
  have HA := Lib.hid hab
  clear hab
  go_enter Tryz.func54, Tryz.ntmps54
  go_wp2_with (first | (go_at_call 52; go_must (refine k52.out.mono ?_; rintro e w1 ⟨rfl, h1, hbel1⟩)))
  clear k52
  obtain ⟨A, n, c, hh1, hb1⟩ := h1.h
  have e0 := (h1.cells).2.1
  have e1 : w1.cell? (m.ab bh) = some (.slice A n c) := hh1.cell
  have k66 := Lib.hid (esc_g h1.drew A n c hh1 hb1 s (HT.out.below hbel1.b.drew hB6) hB6 (by have := HL.out; simp only [List.length_append, List.length_singleton]; omega))
  rw [HA.out] at e0 e1 k66
  have H1 := Lib.hid hbel1
  clear h1 hh1 hb1 hbel1 c0 c1 c3 c4 c5 d0 p0 f3
  go_region_with ((go_at_call 66; go_must (refine k66.out.mono ?_; rintro e w2 ⟨A', n', c', rfl, g0, g1, g2, g3, g4⟩)))
  all_goals
    clear g0 g1 g2 e0 e1 k66
    generalize w2.setCell ab (.slice A' n' c') = w3 at *
    have hl3 : (bl ++ [34] ++ escL s.data.toList).length + 1 ≤ 140737488355328 := by
      have q := esc_len s.data.toList
      have q2 : s.data.toList.length = s.size := Array.length_toList
      have := HL.out
      rw [List.length_append, List.length_append, List.length_singleton]
      omega
    have k52 := Lib.hid (writeByte_g g3 34 hl3)
    have f1 := (g3.cells).2.1
    rw [HA.out] at f1 k52
    have G4 := Lib.hid g4
    clear g3 g4 hl3
    go_wp2_with (first | (go_at_call 52; go_must (refine k52.out.mono ?_; rintro e w4 ⟨rfl, h4, hbel4⟩)))
    go_end0
    refine ⟨rfl, ?_, (H1.out.drew.trans G4.out).trans hbel4⟩
    simpa [quo] using h4

/-- a key as it is written. -/
def keyG (sep s : ByteArray) : List UInt8 := sep.data.toList ++ quo s ++ [58]
theorem keyG_length (sep s : ByteArray) (h : sep.size ≤ 1) : (keyG sep s).length ≤ 6 * s.size + 4 := by
  have e1 : sep.data.toList.length = sep.size := Array.length_toList
  have := quo_length s
  unfold keyG
  rw [List.length_append, List.length_append, List.length_singleton]
  omega

set_option maxRecDepth 100000 in
set_option maxHeartbeats 2000000 in
theorem appendKey_g (h : Gst w B m bh bs bp gs k fb sep bl) (hsep : sep.size ≤ 1) (s : ByteArray) (hT : Tabs w) (hB6 : 6 ≤ B) (hlen : bl.length + 6 * s.size + 4 ≤ 70368744177664) :
    Calls Tryz.prog 53 #[.pointer (some ⟨bs, 0, none⟩), .string s] w fun e w' => e = .returned (.tuple #[]) ∧ Gst w' B m bh bs bp gs k fb ⟨#[44]⟩ (bl ++ keyG sep s) ∧ Kp B w w' := by
  obtain ⟨c0, c1, c3, c4, c5, d0, p0, f3, _⟩ := h.cells
  have hsl : sep.data.toList.length = sep.size := Array.length_toList
  have k23 := Lib.hid (writeString_g h.drew sep (by omega))
  have HK := Lib.hid (And.intro hsl (And.intro hsep (quo_length s)))
  have HL := Lib.hid hlen
  have HT := Lib.hid hT
  clear h hT hlen hsep hsl
  generalize hab : m.ab bh = ab at c1
  rw [hab] at k23
  have HA := Lib.hid hab
  clear hab
  go_enter Tryz.func53, Tryz.ntmps53
  go_wp2_with fail
  go_still_tail 8, (by kernel_rfl)
  clear c0 c1 c3 c4 c5 d0 p0 f3
  go_wp2_with (first | (go_at_call 42; go_must (refine k23.out.mono ?_; rintro e w1 ⟨rfl, h1, hbel1⟩; obtain ⟨c0, c1, c3, c4, c5, d0, p0, f3, _⟩ := h1.cells; rw [HA.out] at c1; have HB1 := Lib.hid hbel1; have k35 := Lib.hid (appendString_g h1 s (HT.out.below ((Kp.refl B w).drew.trans hbel1).b hB6) hB6 (by have := HL.out; have := HK.out; rw [List.length_append]; omega)); clear h1 hbel1 k23)) | (go_at_call 54; go_must (refine k35.out.mono ?_; rintro e w2 ⟨rfl, h2, hbel2⟩; clear c0 c1 c3 c4 c5 d0 p0 f3; obtain ⟨c0, c1, c3, c4, c5, d0, p0, f3, _⟩ := h2.cells; rw [HA.out] at c1; have HB2 := Lib.hid hbel2; clear k35 hbel2; have k33 := Lib.hid (writeByte_g h2 58 (by have := HL.out; have := HK.out; rw [List.length_append, List.length_append]; omega)); rw [HA.out] at k33; clear h2)) | (go_at_call 52; go_must (refine k33.out.mono ?_; rintro e w3 ⟨rfl, h3, hbel3⟩; clear c0 c1 c3 c4 c5 d0 p0 f3; obtain ⟨c0, c1, c3, c4, c5, d0, p0, f3, _⟩ := h3.cells; rw [HA.out] at c1; have HB3 := Lib.hid hbel3; have HS3 := Lib.hid (h3.setSep ⟨#[44]⟩); have k24 := Lib.hid (attrSep_g h3); clear k33 hbel3 h3)) | (go_at_call 43; go_must (refine k24.out.mono ?_; rintro e w4 ⟨rfl, rfl⟩)))
  go_end0
  refine ⟨rfl, ?_, ((((Kp.refl B w).drew.trans HB1.out).trans HB2.out).trans HB3.out).trans HS3.out.2⟩
  simpa [keyG] using HS3.out.1

theorem str_any87 (w : World) (q a : Value) (s : ByteArray) : Calls Tryz.prog 87 #[.agg #[q, .string s, a]] w fun e w' => e = .returned (.string s) ∧ Below w.heap.size w w' := by
  go_enter Tryz.func87, Tryz.ntmps87
  go_wp2
  go_ret
  exact ⟨rfl, (Below.refl _ _).alloc (Nat.le_refl _) _⟩
set_option maxRecDepth 100000 in
/-- appendValue (79) of a Value that is a text. -/
theorem appendValue_g (h : Gst w B m bh bs bp gs k fb sep bl) (q a : Value) (s : ByteArray) (hT : Tabs w) (hB6 : 6 ≤ B) (hlen : bl.length + 6 * s.size + 2 ≤ 70368744177664) :
    Calls Tryz.prog 79 #[.pointer (some ⟨bs, 0, none⟩), .agg #[q, .string s, a]] w fun e w' => e = .returned (.tuple #[]) ∧ Gst w' B m bh bs bp gs k fb sep (bl ++ quo s) ∧ Kp B w w' := by
  have hba : Below w.heap.size w (w.alloc (.cells #[q, .string s, a] 99)) := (Below.refl _ _).alloc (Nat.le_refl _) _
  have k87 := Lib.hid (str_any87 (w.alloc (.cells #[q, .string s, a] 99)) q a s)
  have HB := Lib.hid hba
  have HH := Lib.hid h
  have HT := Lib.hid hT
  have HL := Lib.hid hlen
  clear h hT hlen hba
  go_enter Tryz.func79, Tryz.ntmps79
  go_wp2_with (first | (go_at_call 87; go_must (refine k87.out.mono ?_; rintro e w1 ⟨rfl, h1⟩; have hb1 := HB.out.trans (h1.mono HB.out.size); have k54 := Lib.hid (appendString_g (HH.out.below hb1) s (HT.out.below (hb1.mono HH.out.hz) hB6) hB6 HL.out); have HB1 := Lib.hid (Kp.of_below hb1 HH.out.hz); clear h1 hb1)) | (go_at_call 54; go_must (refine k54.out.mono ?_; rintro e w2 ⟨rfl, h2, hb2⟩)))
  go_end0
  exact ⟨rfl, h2, HB1.out.trans hb2⟩
end
end Go.Proofs.YtcllhgajdcemiaaGreatDoor.jb

namespace Go.Proofs.YtcllhgajdcemiaaGreatDoor.jb
open Go.RowKit Go.Proofs.YtcllhgajdcemiaaGreatDoorW.PrintWords Go.Proofs.YtcllhgajdcemiaaGreatDoorW.PrintLast Go.Proofs.YtcllhgajdcemiaaGreatDoorW.PrintMore
set_option linter.unusedVariables false
set_option linter.unusedSimpArgs false

theorem info102 : (Tryz.prog.info? 102).map (fun i => (i.zero, i.size, i.bytes)) = some (some (.agg #[(.string ⟨#[]⟩), (.int .i64 0), (.string ⟨#[]⟩), (.slice none 0 0)]), 4, 64) := by kernel_rfl
structure S102 where
  f0 : ByteArray
  f1 : Int
  f2 : ByteArray
  f3 : (List S102)
def z102 : S102 := ⟨(⟨#[]⟩ : ByteArray), (0 : Int), (⟨#[]⟩ : ByteArray), ([] : List S102)⟩
def F102 (d : Kd S102) : Kd S102 := Kd.iso (Kd.pair Kd.string (Kd.pair (Kd.int .i64) (Kd.pair Kd.string (Kd.slice 102 d)))) (fun x : S102 => (x.f0, x.f1, x.f2, x.f3))
theorem mono102 : Kd.Mono F102 := Kd.mono_iso _ (Kd.mono_pair (Kd.mono_const _) (Kd.mono_pair (Kd.mono_const _) (Kd.mono_pair (Kd.mono_const _) (Kd.mono_slice 102 Kd.mono_id))))
theorem sub102 : Kd.Sub F102 [102] := Kd.sub_iso _ (Kd.sub_pair (Kd.sub_const _ (by decide)) (Kd.sub_pair (Kd.sub_const _ (by decide)) (Kd.sub_pair (Kd.sub_const _ (by decide)) (Kd.sub_slice 102 (by decide) Kd.sub_id))))
theorem sz102 : ∀ n, (Kd.upto F102 4 [102] n).sz = 4 := Kd.upto_sz (fun _ => rfl)
def k102 : Kd S102 := Kd.fix F102 4 [102] sz102 (Kd.upto_E sub102)
theorem k102_open {w : World} {x : S102} {cs : List Value} (h : k102.K w x cs) : ∃ A3 c3, cs = [.string x.f0, .int .i64 x.f1, .string x.f2, .slice A3 x.f3.length c3] ∧ x.f3.length ≤ c3 ∧ k102.C w A3 x.f3.length x.f3 := by
  obtain ⟨n, h⟩ := h
  cases n with
  | zero => exact h.elim
  | succ n =>
    obtain ⟨_, _, rfl, rfl, ⟨_, _, rfl, rfl, ⟨_, _, rfl, rfl, ⟨A3, c3, rfl, l3, g3⟩⟩⟩⟩ := h
    exact ⟨A3, c3, rfl, l3, Kd.fix_C g3⟩
theorem k102_openM {w : World} {base : Nat} {ok : Nat → Prop} {x : S102} {cs : List Value} (h : k102.M w base ok x cs) : ∃ v3, cs = [.string x.f0, .int .i64 x.f1, .string x.f2, v3] ∧ k102.R 102 w base ok v3 x.f3 := by
  obtain ⟨n, h⟩ := h
  cases n with
  | zero => exact h.elim
  | succ n =>
    obtain ⟨_, _, rfl, rfl, ⟨_, _, rfl, rfl, ⟨_, _, rfl, rfl, ⟨v3, rfl, g3⟩⟩⟩⟩ := h
    exact ⟨v3, rfl, Kd.fix_R g3⟩
theorem k102_mk (w : World) (x : S102) {A3 : Option Addr} {c3 : Nat} (l3 : x.f3.length ≤ c3) (g3 : k102.C w A3 x.f3.length x.f3) : k102.K w x [.string x.f0, .int .i64 x.f1, .string x.f2, .slice A3 x.f3.length c3] := by
  obtain ⟨n3, q3⟩ := Kd.fix_C_back mono102 g3
  have r3 := Kd.upto_C_le mono102 sz102 (show n3 ≤ n3 by omega) q3
  exact ⟨n3 + 1, ⟨[.string x.f0], [.int .i64 x.f1, .string x.f2, .slice A3 x.f3.length c3], rfl, rfl, ⟨[.int .i64 x.f1], [.string x.f2, .slice A3 x.f3.length c3], rfl, rfl, ⟨[.string x.f2], [.slice A3 x.f3.length c3], rfl, rfl, ⟨A3, c3, rfl, l3, r3⟩⟩⟩⟩⟩
theorem k102_mkM (w : World) (base : Nat) (ok : Nat → Prop) (x : S102) {v3 : Value} (g3 : k102.R 102 w base ok v3 x.f3) : k102.M w base ok x [.string x.f0, .int .i64 x.f1, .string x.f2, v3] := by
  obtain ⟨n3, q3⟩ := Kd.fix_R_back mono102 g3
  have r3 := Kd.upto_R_le mono102 sz102 (show n3 ≤ n3 by omega) q3
  exact ⟨n3 + 1, ⟨[.string x.f0], [.int .i64 x.f1, .string x.f2, v3], rfl, rfl, ⟨[.int .i64 x.f1], [.string x.f2, v3], rfl, rfl, ⟨[.string x.f2], [v3], rfl, rfl, ⟨v3, rfl, r3⟩⟩⟩⟩⟩
theorem k102_openF {W : World} {ok : Nat → Prop} {x : S102} {cs : List Value} (h : Kd.FK k102 W ok x cs) : ∃ A3 c3, cs = [.string x.f0, .int .i64 x.f1, .string x.f2, .slice A3 x.f3.length c3] ∧ x.f3.length ≤ c3 ∧ Kd.F k102 W ok A3 x.f3.length x.f3 := by
  obtain ⟨A3, c3, rfl, l3, _⟩ := k102_open (Kd.FK_now h)
  exact ⟨A3, c3, rfl, l3, (fun W' hW => by obtain ⟨A3_, c3_, he, l3_, g3_⟩ := k102_open (h W' hW); injection (Option.some.inj (show some (Value.slice A3 x.f3.length c3) = some (Value.slice A3_ x.f3.length c3_) from congrArg (fun l => l[3]?) he)) with ha_ _ _; rw [ha_]; exact g3_)⟩
theorem k102_mkF (W : World) (ok : Nat → Prop) (x : S102) {A3 : Option Addr} {c3 : Nat} (l3 : x.f3.length ≤ c3) (g3 : Kd.F k102 W ok A3 x.f3.length x.f3) : Kd.FK k102 W ok x [.string x.f0, .int .i64 x.f1, .string x.f2, .slice A3 x.f3.length c3] := fun W2 hW => k102_mk W2 x l3 (g3 W2 hW)
def rd_T102 (xs : List S102) (i : Int) : S102 := xs.getD i.toNat z102
theorem at_T102 {w : World} {A : Option Addr} {n : Nat} {xs : List S102} (h : Kd.C k102 w A n xs) (i : Int) (h0 : 0 ≤ i) (h1 : i < n) : ∃ ad A3 c3, A = some ad ∧ w.cell? (ad.add (i.toNat * 4)) = some (.string (rd_T102 xs i).f0) ∧ w.cell? ⟨(ad.add (i.toNat * 4)).block, (ad.add (i.toNat * 4)).off + 1, none⟩ = some (.int .i64 (rd_T102 xs i).f1) ∧ w.cell? ⟨(ad.add (i.toNat * 4)).block, (ad.add (i.toNat * 4)).off + 2, none⟩ = some (.string (rd_T102 xs i).f2) ∧ w.cell? ⟨(ad.add (i.toNat * 4)).block, (ad.add (i.toNat * 4)).off + 3, none⟩ = some (.slice A3 (rd_T102 xs i).f3.length c3) ∧ (rd_T102 xs i).f3.length ≤ c3 ∧ k102.C w A3 (rd_T102 xs i).f3.length (rd_T102 xs i).f3 := by
  obtain ⟨ad, c, e, _, hK, hc0⟩ := Kd.C_get h z102 i h0 h1
  have hc : ∀ j u, c[j]? = some u → w.cell? (ad.add (i.toNat * 4 + j)) = some u := hc0
  obtain ⟨A3, c3, rfl, l3, g3⟩ := k102_open hK
  exact ⟨ad, A3, c3, e, hc 0 _ rfl, by rw [← add_field _ _ 1 (by omega)]; exact hc 1 _ rfl, by rw [← add_field _ _ 2 (by omega)]; exact hc 2 _ rfl, by rw [← add_field _ _ 3 (by omega)]; exact hc 3 _ rfl, l3, g3⟩

theorem heap102 : Kd.Heap k102 := Kd.heap_fix (fun d hd => Kd.heap_iso _ (Kd.heap_pair Kd.heap_string (Kd.heap_pair (Kd.heap_int _) (Kd.heap_pair Kd.heap_string (Kd.heap_slice 102 hd)))))

mutual
/-- what is written of an attribute behind what stands between, and what stands between then. -/
def outA : ByteArray → S102 → List UInt8 × ByteArray
  | sep, ⟨k, n, s, l⟩ =>
    if n = 2 then
      (if l.isEmpty then ([], sep)
       else if k.size = 0 then outL sep l
       else (keyG sep k ++ [123] ++ (outL ⟨#[]⟩ l).1 ++ [125], ⟨#[44]⟩))
    else (keyG sep k ++ quo s, ⟨#[44]⟩)
def outL : ByteArray → List S102 → List UInt8 × ByteArray
  | sep, [] => ([], sep)
  | sep, a :: l => ((outA sep a).1 ++ (outL (outA sep a).2 l).1, (outL (outA sep a).2 l).2)
end
mutual
/-- no group within is empty, and a kind is 1 or 2. -/
def goodA : S102 → Bool
  | ⟨_, n, _, l⟩ => (n == 1 || (n == 2 && goodL l))
def goodL : List S102 → Bool
  | [] => true
  | a :: l => goodA a && fullA a && goodL l
def fullA : S102 → Bool
  | ⟨_, n, _, l⟩ => (n == 1 || !l.isEmpty)
end
mutual
/-- how much there is to write. -/
def bulkA : S102 → Nat
  | ⟨k, _, s, l⟩ => 6 * k.size + 6 * s.size + 10 + bulkL l
def bulkL : List S102 → Nat
  | [] => 0
  | a :: l => bulkA a + bulkL l
end
end Go.Proofs.YtcllhgajdcemiaaGreatDoor.jb

namespace Go.Proofs.YtcllhgajdcemiaaGreatDoor.jb
open Go.RowKit
set_option linter.unusedVariables false
set_option linter.unusedSimpArgs false

theorem kind63 (w : World) (n : Int) (s a : Value) : Calls Tryz.prog 63 #[.agg #[.int .i64 n, s, a]] w fun e w' => e = .returned (.int .i64 n) ∧ Below w.heap.size w w' := by
  go_enter Tryz.func63, Tryz.ntmps63
  go_wp2
  go_ret
  exact ⟨rfl, (Below.refl _ _).alloc (Nat.le_refl _) _⟩
theorem group64 (w : World) (q s a : Value) : Calls Tryz.prog 64 #[.agg #[q, s, a]] w fun e w' => e = .returned a ∧ Below w.heap.size w w' := by
  go_enter Tryz.func64, Tryz.ntmps64
  go_wp2
  go_ret
  exact ⟨rfl, (Below.refl _ _).alloc (Nat.le_refl _) _⟩
theorem group77 (w : World) (q s a : Value) : Calls Tryz.prog 77 #[.agg #[q, s, a]] w fun e w' => e = .returned a ∧ Below w.heap.size w w' := by
  go_enter Tryz.func77, Tryz.ntmps77
  go_wp2
  go_ret
  exact ⟨rfl, (Below.refl _ _).alloc (Nat.le_refl _) _⟩
theorem resolve75 (w : World) (n : Int) (t : ByteArray) (A : Option Addr) (m c : Nat) : Calls Tryz.prog 75 #[.agg #[.int .i64 n, .string t, .slice A m c]] w fun e w' => e = .returned (.agg #[.int .i64 n, .string t, .slice A m c]) ∧ Below w.heap.size w w' := by
  go_enter Tryz.func75, Tryz.ntmps75
  go_wp2
  refine bodyPost_ret (v := .agg #[.int .i64 n, .string t, .slice A m c]) (by simp [results, Tryz.results75, go_sem]) rfl ⟨rfl, ?_⟩
  exact ((Below.refl _ w).alloc (Nat.le_refl _) _).alloc (by simp) _
theorem isEmpty76 (w : World) (k : ByteArray) (n : Int) (s a : Value) (hn : n ≠ 0) : Calls Tryz.prog 76 #[.agg #[.string k, .int .i64 n, s, a]] w fun e w' => e = .returned (.bool false) ∧ Below w.heap.size w w' := by
  have hn0 : (n == 0) = false := by simp [hn]
  go_enter Tryz.func76, Tryz.ntmps76
  go_wp2
  all_goals
    go_ret
    refine ⟨?_, (Below.refl _ _).alloc (Nat.le_refl _) _⟩
    simp [hn0]
theorem isEmptyGroup50 (w : World) (n : Int) (t : ByteArray) (A : Option Addr) (m c : Nat) : Calls Tryz.prog 50 #[.agg #[.int .i64 n, .string t, .slice A m c]] w fun e w' => e = .returned (.bool (n == 2 && m == 0)) ∧ Below w.heap.size w w' := by
  have hba : Below w.heap.size w (w.alloc (.cells #[.int .i64 n, .string t, .slice A m c] 99)) := (Below.refl _ _).alloc (Nat.le_refl _) _
  have HB := Lib.hid hba
  have HN := Lib.hid (wk.Blk.new w 99 #[.int .i64 n, .string t, .slice A m c])
  have k63 := Lib.hid (kind63 (w.alloc (.cells #[.int .i64 n, .string t, .slice A m c] 99)) n (.string t) (.slice A m c))
  clear hba
  by_cases hn : n = 2
  · subst hn
    by_cases hm : m = 0
    · subst hm
      go_enter Tryz.func50, Tryz.ntmps50
      go_wp2_with (first | (go_at_call 63; go_must (refine k63.out.mono ?_; rintro e w1 ⟨rfl, h1⟩; have HB1 := Lib.hid (HB.out.trans (h1.mono HB.out.size)); have hb1 := HN.out.below h1 HN.out.lt; have c0 := hb1.cell 0; have c1 := hb1.cell 1; have c2 := hb1.cell 2; have k64 := Lib.hid (group64 w1 (.int .i64 2) (.string t) (.slice A 0 c)); clear h1 hb1)) | (go_at_call 64; go_must (refine k64.out.mono ?_; rintro e w2 ⟨rfl, h2⟩)))
      go_ret
      exact ⟨rfl, HB1.out.trans (h2.mono HB1.out.size)⟩
    · have hm0 : ((m : Int) == 0) = false := by simp [hm]
      have hm1 : (m == 0) = false := by simp [hm]
      rw [hm1]
      go_enter Tryz.func50, Tryz.ntmps50
      go_wp2_with (first | (go_at_call 63; go_must (refine k63.out.mono ?_; rintro e w1 ⟨rfl, h1⟩; have HB1 := Lib.hid (HB.out.trans (h1.mono HB.out.size)); have hb1 := HN.out.below h1 HN.out.lt; have c0 := hb1.cell 0; have c1 := hb1.cell 1; have c2 := hb1.cell 2; have k64 := Lib.hid (group64 w1 (.int .i64 2) (.string t) (.slice A m c)); clear h1 hb1)) | (go_at_call 64; go_must (refine k64.out.mono ?_; rintro e w2 ⟨rfl, h2⟩)))
      go_ret
      exact ⟨by simp, HB1.out.trans (h2.mono HB1.out.size)⟩
  · have hn0 : (n == 2) = false := by simp [hn]
    rw [hn0]
    go_enter Tryz.func50, Tryz.ntmps50
    go_wp2_with (first | (go_at_call 63; go_must (refine k63.out.mono ?_; rintro e w1 ⟨rfl, h1⟩; have HB1 := Lib.hid (HB.out.trans (h1.mono HB.out.size)))))
    go_ret
    exact ⟨rfl, HB1.out⟩

section
variable {w w' w1 : World} {B bh bs bp : Nat} {m : Md} {gs v : Value} {k : Int} {fb : Bool} {sep sep' : ByteArray} {bl bl' : List UInt8}

set_option maxRecDepth 100000 in
set_option maxHeartbeats 2000000 in
theorem openGroup_g (h : Gst w B m bh bs bp gs k fb sep bl) (hsep : sep.size ≤ 1) (s : ByteArray) (hT : Tabs w) (hB6 : 6 ≤ B) (hlen : bl.length + 6 * s.size + 5 ≤ 70368744177664) :
    Calls Tryz.prog 61 #[.pointer (some ⟨bs, 0, none⟩), .string s] w fun e w' => e = .returned (.tuple #[]) ∧ Gst w' B m bh bs bp gs k fb ⟨#[]⟩ (bl ++ keyG sep s ++ [123]) ∧ Kp B w w' := by
  obtain ⟨c0, c1, c3, c4, c5, d0, p0, f3, _⟩ := h.cells
  have k53 := Lib.hid (appendKey_g h hsep s hT hB6 (by omega))
  have HL := Lib.hid hlen
  have HK := Lib.hid (keyG_length sep s hsep)
  clear h hT hlen hsep
  generalize hab : m.ab bh = ab at c1
  have HA := Lib.hid hab
  clear hab
  go_enter Tryz.func61, Tryz.ntmps61
  go_wp2_with (first | (go_at_call 53; go_must (refine k53.out.mono ?_; rintro e w1 ⟨rfl, h1, hbel1⟩; clear c0 c1 c3 c4 c5 d0 p0 f3; obtain ⟨c0, c1, c3, c4, c5, d0, p0, f3, _⟩ := h1.cells; rw [HA.out] at c1; have HB1 := Lib.hid hbel1; have k52 := Lib.hid (writeByte_g h1 123 (by have := HL.out; have := HK.out; rw [List.length_append]; omega)); rw [HA.out] at k52; clear h1 hbel1 k53)) | (go_at_call 52; go_must (refine k52.out.mono ?_; rintro e w2 ⟨rfl, h2, hbel2⟩; clear c0 c1 c3 c4 c5 d0 p0 f3; obtain ⟨c0, c1, c3, c4, c5, d0, p0, f3, _⟩ := h2.cells; rw [HA.out] at c1; have HB2 := Lib.hid hbel2; have HS2 := Lib.hid (h2.setSep ⟨#[]⟩); clear h2 hbel2 k52)))
  go_end0
  exact ⟨rfl, HS2.out.1, (HB1.out.trans HB2.out).trans HS2.out.2⟩
set_option maxRecDepth 100000 in
set_option maxHeartbeats 2000000 in
theorem closeGroup_g (h : Gst w B m bh bs bp gs k fb sep bl) (s : ByteArray) (hlen : bl.length + 1 ≤ 70368744177664) :
    Calls Tryz.prog 78 #[.pointer (some ⟨bs, 0, none⟩), .string s] w fun e w' => e = .returned (.tuple #[]) ∧ Gst w' B m bh bs bp gs k fb ⟨#[44]⟩ (bl ++ [125]) ∧ Kp B w w' := by
  obtain ⟨c0, c1, c3, c4, c5, d0, p0, f3, _⟩ := h.cells
  have k52 := Lib.hid (writeByte_g h 125 (by omega))
  clear h hlen
  generalize hab : m.ab bh = ab at c1
  rw [hab] at k52
  have HA := Lib.hid hab
  clear hab
  go_enter Tryz.func78, Tryz.ntmps78
  go_wp2_with (first | (go_at_call 52; go_must (refine k52.out.mono ?_; rintro e w2 ⟨rfl, h2, hbel2⟩; clear c0 c1 c3 c4 c5 d0 p0 f3; obtain ⟨c0, c1, c3, c4, c5, d0, p0, f3, _⟩ := h2.cells; rw [HA.out] at c1; have HB2 := Lib.hid hbel2; have HS2 := Lib.hid (h2.setSep ⟨#[44]⟩); have k43 := Lib.hid (attrSep_g h2); clear h2 hbel2 k52)) | (go_at_call 43; go_must (refine k43.out.mono ?_; rintro e w4 ⟨rfl, rfl⟩)))
  go_end0
  exact ⟨rfl, HS2.out.1, HB2.out.trans HS2.out.2⟩
end
end Go.Proofs.YtcllhgajdcemiaaGreatDoor.jb
