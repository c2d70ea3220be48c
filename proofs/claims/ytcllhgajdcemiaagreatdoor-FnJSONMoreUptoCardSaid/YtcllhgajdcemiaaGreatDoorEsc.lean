/-
  EscPure: What appendEscapedJSONString writes, as a function on lists of bytes; no program in sight.
  Buf: A slice of bytes that may be appended to (Bf: it owns its row, or it is full and its row lies below block B), and what an append to it leaves. Conditions: at most 2^47 bytes.
  Shelf: unicode/utf8.DecodeRuneInString at every string: the contract of the kit's shelf, laid at this dump in plain words by the kit's lay-plain.mjs. Condition: the two tables of unicode/utf8 hold what their initialisers lay.
  Esc: appendEscapedJSONString at every string: it appends escL of it. Conditions: safeSet and the tables of unicode/utf8 hold what their initialisers lay; the bytes stay below 2^46.
  EscLoop: appendEscapedJSONString's loop. Conditions: as in the text before.
-/
import Derived.Lib.TrimUEq
import Derived.Lib.QuoteLoop
import Derived.Lib.RuneCountTail
import Derived.Shelf.Unicode.DecodeLastEight
import Derived.Test.YtcllhgajdcemiaaGreatDoorWk
import Derived.Shelf.Unicode.Decode
import Derived.Shelf.Unicode.DecodeSlow
import Derived.Shelf.Unicode.DecodeAny
import Derived.Test.YtcllhgajdcemiaaGreatDoorProg
namespace Go.Proofs.YtcllhgajdcemiaaGreatDoor.jb
open Go.Lib

def safeB (c : Nat) : Bool := decide (32 ≤ c) && (decide (c < 128) && (decide (c ≠ 34) && decide (c ≠ 92)))
/-- a hexadecimal digit. -/
def hexd (n : Nat) : UInt8 := UInt8.ofNat (if n < 10 then 48 + n else 87 + n)
/-- an ASCII byte. -/
def escA (c : UInt8) : List UInt8 :=
  if safeB c.toNat = true then [c]
  else if c.toNat = 92 ∨ c.toNat = 34 then [92, c]
  else if c.toNat = 10 then [92, 110]
  else if c.toNat = 13 then [92, 114]
  else if c.toNat = 9 then [92, 116]
  else [92, 117, 48, 48, hexd (c.toNat / 16), hexd (c.toNat % 16)]
/-- a rune r of w bytes at the head of l. -/
def escR (l : List UInt8) (r w : Nat) : List UInt8 :=
  if r = 65533 ∧ w = 1 then [239, 191, 189]
  else if r = 8232 ∨ r = 8233 then [92, 117, 50, 48, 50, hexd (r % 16)]
  else l.take w
def escL : List UInt8 → List UInt8
  | [] => []
  | c :: t => if c.toNat < 128 then escA c ++ escL t else escR (c :: t) (decodeL (c :: t)).1 (decodeL (c :: t)).2 ++ escL (t.drop ((decodeL (c :: t)).2 - 1))
termination_by l => l.length
decreasing_by
  · simp
  · simp only [List.length_drop, List.length_cons]; omega

theorem escL_nil : escL [] = [] := by rw [escL]
theorem escL_ascii (c : UInt8) (t : List UInt8) (h : c.toNat < 128) : escL (c :: t) = escA c ++ escL t := by rw [escL, if_pos h]
theorem escL_rune (c : UInt8) (t : List UInt8) (h : ¬ c.toNat < 128) : escL (c :: t) = escR (c :: t) (decodeL (c :: t)).1 (decodeL (c :: t)).2 ++ escL (t.drop ((decodeL (c :: t)).2 - 1)) := by rw [escL, if_neg h]
theorem escA_length (c : UInt8) : (escA c).length ≤ 6 := by
  unfold escA
  repeat' split
  all_goals simp
theorem decodeL_ge1 (l : List UInt8) : 1 ≤ (decodeL l).2 := by rw [decodeL_N]; exact decodeN_ge1 _ _ _ _ _
theorem decodeL_le4 (l : List UInt8) : (decodeL l).2 ≤ 4 := by
  rw [decodeL_N]
  unfold decodeN
  repeat' split
  all_goals simp
theorem decodeL_le (c : UInt8) (t : List UInt8) : (decodeL (c :: t)).2 ≤ (c :: t).length := by rw [decodeL_N]; exact decodeN_le_n _ _ _ _ _ (by simp)
theorem decodeL_high (c : UInt8) (t : List UInt8) (h : ¬ c.toNat < 128) : 128 ≤ (decodeL (c :: t)).1 := by
  rw [decodeL_N]
  simp only [List.getD_cons_zero]
  unfold decodeN
  rw [if_neg h]
  repeat' split
  all_goals (simp only; omega)
theorem decodeL_le_max (l : List UInt8) : (decodeL l).1 ≤ 1114111 := by
  unfold decodeL
  exact rune_le _ _
theorem escR_length (l : List UInt8) (r w : Nat) (h : w ≤ 4) : (escR l r w).length ≤ 6 := by
  unfold escR
  repeat' split
  · simp
  · simp
  · rw [List.length_take]; omega
theorem escL_length : ∀ (n : Nat) (l : List UInt8), l.length ≤ n → (escL l).length ≤ 6 * l.length := by
  intro n
  induction n with
  | zero =>
    intro l hl
    have : l = [] := List.eq_nil_of_length_eq_zero (by omega)
    subst this
    rw [escL_nil]
    simp
  | succ n ih =>
    intro l hl
    cases l with
    | nil => rw [escL_nil]; simp
    | cons c t =>
      simp only [List.length_cons] at hl ⊢
      by_cases hc : c.toNat < 128
      · rw [escL_ascii c t hc, List.length_append]
        have := escA_length c
        have := ih t (by omega)
        omega
      · rw [escL_rune c t hc, List.length_append]
        have := escR_length (c :: t) (decodeL (c :: t)).1 (decodeL (c :: t)).2 (decodeL_le4 _)
        have := ih (t.drop ((decodeL (c :: t)).2 - 1)) (by rw [List.length_drop]; omega)
        rw [List.length_drop] at this
        omega
theorem decodeGo_at (s : ByteArray) (i : Nat) (h : i < s.size) : decodeGo (s.extract i s.size) = decodeL (s.data.toList.drop i) := by
  unfold decodeGo
  rw [if_neg (by rw [ByteArray.size_extract]; omega), tail_decode, decodeL_drop, Nat.add_zero]
theorem esc_len (l : List UInt8) : (escL l).length ≤ 6 * l.length := escL_length l.length l (Nat.le_refl _)
end Go.Proofs.YtcllhgajdcemiaaGreatDoor.jb

namespace Go.Proofs.YtcllhgajdcemiaaGreatDoor.jb
open Go.RowKit
open Go.Proofs.YtcllhgajdcemiaaGreatDoor.wk (Blk bytesOf bytesOf_append bytesOf_length info5 own_form own_blk_ne strCells_bytesOf)

/-- What only writes to rows of bytes from block B on leaves. -/
structure Fr (B : Nat) (w w' : World) : Prop where
  os : w'.os = w.os
  tape : w'.tape = w.tape
  output : w'.output = w.output
  size : w.heap.size ≤ w'.heap.size
  block : ∀ k, k < w.heap.size → (k < B ∨ ∀ cs fz, w.heap[k]? ≠ some (.cells cs 5 fz)) → w'.heap[k]? = w.heap[k]?

section
variable {B : Nat} {w w' w1 w2 : World}
theorem Fr.refl (B : Nat) (w : World) : Fr B w w := ⟨rfl, rfl, rfl, Nat.le_refl _, fun _ _ _ => rfl⟩
theorem Fr.trans (h : Fr B w w1) (k : Fr B w1 w2) : Fr B w w2 :=
  ⟨k.os.trans h.os, k.tape.trans h.tape, k.output.trans h.output, Nat.le_trans h.size k.size, fun i hi hc => by
    have e := h.block i hi hc
    exact (k.block i (Nat.lt_of_lt_of_le hi h.size) (hc.imp id (fun hn cs fz => by rw [e]; exact hn cs fz))).trans e⟩
theorem Fr.toBelow (h : Fr B w w') (hB : B ≤ w.heap.size) : Below B w w' := ⟨h.os, h.tape, h.output, h.size, fun k hk => h.block k (Nat.lt_of_lt_of_le hk hB) (.inl hk)⟩
theorem Fr.of_below (h : Below w.heap.size w w') : Fr B w w' := ⟨h.os, h.tape, h.output, h.size, fun k hk _ => h.block k hk⟩
theorem Fr.drew (h : Fr B w w') : Fr B w w'.drew := ⟨h.os, h.tape, h.output, h.size, h.block⟩
theorem Fr.mono {B' : Nat} (h : Fr B w w') (hB : B' ≤ B) : Fr B' w w' := ⟨h.os, h.tape, h.output, h.size, fun k hk hc => h.block k hk (hc.imp (fun h => Nat.lt_of_lt_of_le h hB) id)⟩
theorem Fr.grown {base size n : Nat} {v : Value} {xs : List Value} (hown : w.ownsRow base 5 size v n xs) (hb : B ≤ base) (hg : w.grownBy w' v.ownBlock) : Fr B w w' :=
  ⟨hg.os, hg.tape, hg.output, hg.size, fun k hk hc => hg.block k hk (fun e => by
    rcases hown.2 with ⟨rfl, _⟩ | ⟨g, cap, cur, rfl, hbg, hh, _⟩
    · simp [Value.ownBlock] at e
    · have : k = g := by simpa [Value.ownBlock] using e
      subst this
      rcases hc with h | h
      · omega
      · exact h _ _ hh)⟩
theorem Fr.blk {g : Nat} {t : TypeId} {cs : Array Value} (h : Fr B w w') (hb : Blk w g t cs) (ht : t ≠ 5) : Blk w' g t cs :=
  (h.block g hb.lt (.inr fun cs' fz e => by
    unfold Blk at hb
    rw [hb] at e
    injection e with e
    injection e with _ e
    exact ht e)).trans hb
end

/-- A slice of bytes bl that can be appended to without harm: it owns its row, or it is full (its row lies below B). -/
def Bf (w : World) (B : Nat) (v : Value) (bl : List UInt8) : Prop :=
  w.ownsRow B 5 1 v bl.length (bytesOf bl) ∨
  ∃ g o, v = .slice (some ⟨g, o, none⟩) bl.length bl.length ∧ 0 < bl.length ∧ g < B ∧ ∀ j u, (bytesOf bl)[j]? = some u → w.cell? ⟨g, o + j, none⟩ = some u

section
variable {B : Nat} {w w' : World} {v : Value} {bl : List UInt8}
theorem Bf.nil (w : World) (B : Nat) : Bf w B (.slice none 0 0) [] := .inl (World.ownsRow_nil _ _ _ _)
theorem Bf.form (h : Bf w B v bl) : ∃ A c, v = .slice A bl.length c := by
  rcases h with h | ⟨g, o, rfl, _⟩
  · exact own_form h
  · exact ⟨_, _, rfl⟩
theorem Bf.drew (h : Bf w B v bl) : Bf w.drew B v bl := h
/-- what lies below the heap's size stays. -/
theorem Bf.below (h : Bf w B v bl) (hb : Below w.heap.size w w') (hB : B ≤ w.heap.size) : Bf w' B v bl := by
  rcases h with h | ⟨g, o, rfl, h0, hg, hc⟩
  · exact .inl (h.kept (row := none) ⟨hb.os, hb.tape, hb.output, hb.size, fun k hk _ => hb.block k hk⟩ (by cases v.ownBlock <;> simp))
  · exact .inr ⟨g, o, rfl, h0, hg, fun j u hu => (hb.cell (p := ⟨g, o + j, none⟩) (by show g < _; omega)).trans (hc j u hu)⟩
/-- a store into a block that is no row of bytes. -/
theorem Bf.set_ (h : Bf w B v bl) {g : Nat} {t : TypeId} {cs : Array Value} (hb : Blk w g t cs) (ht : t ≠ 5) (hg : B ≤ g) (i : Nat) (u : Value) : Bf (w.setCell ⟨g, i, none⟩ u) B v bl := by
  rcases h with h | ⟨g', o, rfl, h0, hg', hc⟩
  · exact .inl (h.kept (row := some g) ⟨rfl, rfl, rfl, by simp [World.setCell], fun k _ hk => Below.heap_setCell w ⟨g, i, none⟩ u k (fun e => hk (by rw [e]))⟩ (.inr (own_blk_ne h hb (Ne.symm ht))))
  · exact .inr ⟨g', o, rfl, h0, hg', fun j u' hu => (World.cell?_of_block (Below.heap_setCell w ⟨g, i, none⟩ u g' (by show g' ≠ g; omega))).trans (hc j u' hu)⟩
theorem Bf.cells (h : Bf w B v bl) (hl : bl ≠ []) : ∃ g o, v = .slice (some ⟨g, o, none⟩) bl.length (match v with | .slice _ _ c => c | _ => 0) ∧ ∀ j u, (bytesOf bl)[j]? = some u → w.cell? ⟨g, o + j, none⟩ = some u := by
  have hp : 0 < bl.length := List.length_pos_iff.2 hl
  rcases h with h | ⟨g, o, rfl, h0, hg, hc⟩
  · rcases h.2 with ⟨_, h0⟩ | ⟨g, cap, cur, rfl, _⟩
    · omega
    · refine ⟨g, 0, rfl, fun j u hu => ?_⟩
      have := h.cells (g := g) rfl j u hu
      rw [Nat.zero_add]
      simpa [Addr.add_lit] using this
  · exact ⟨g, o, rfl, hc⟩

theorem own_fresh (w : World) (hB : B ≤ w.heap.size) (xs news : List Value) (n cap : Nat) (hn : xs.length + news.length = n) (hcap : n ≤ cap) (hcm : cap ≤ maxLen) :
    (w.drew.alloc (.cells (xs.toArray ++ news.toArray ++ Builtin.zeroCells (Value.int .u8 0).cells (cap - n)) 5)).ownsRow B 5 1 (.slice (some ⟨w.heap.size, 0, none⟩) n cap) n (xs ++ news) := by
  have hlen : (xs ++ news).length = n * 1 := by rw [List.length_append, hn, Nat.mul_one]
  refine ⟨hlen, .inr ⟨w.heap.size, _, _, rfl, hB, heap_alloc_new w.drew _, hcap, hcm, ?_, ?_⟩⟩
  · have hz1 : (Value.int IntKind.u8 0).cells.size = 1 := rfl
    simp only [Array.size_append, List.size_toArray, size_zeroCells, hz1]
    omega
  · simp only [Array.toList_append, List.append_assoc]
    rw [← List.append_assoc, ← hlen]
    exact List.take_left

/-- append(v, s...), a string. -/
theorem bf_append_string (t ty : TypeId) (ht : Tryz.prog.underlying t = some (.slice 5)) (h : Bf w B v bl) (s : ByteArray) (hB : B ≤ w.heap.size) (hlen : bl.length + s.size ≤ 140737488355328) :
    ∃ A n c w', (Builtin.append_ #[t, 9] ty #[v, .string s]).run Tryz.prog w = .ok (.slice A n c) w' ∧ Bf w' B (.slice A n c) (bl ++ s.data.toList) ∧ Fr B w w' := by
  obtain ⟨i0, hi, hz0, hz1, hz2⟩ := info_parts info5
  have hll : (bl ++ s.data.toList).length = bl.length + s.size := by rw [List.length_append, Array.length_toList]; rfl
  rcases h with h | ⟨g, o, rfl, h0, hg, hc⟩
  · obtain ⟨v', w', hr, ho, hgr, _⟩ := Lib.run_append_own_string (P := Tryz.prog) w B t 9 ty 5 i0 ht Tryz.underlying9 hi hz0 hz1 hz2 v bl.length (bytesOf bl) h s (by unfold maxLen; omega) hlen hB
    rw [strCells_bytesOf, ← bytesOf_append, ← hll] at ho
    obtain ⟨A, c, rfl⟩ := own_form ho
    exact ⟨A, _, c, w', hr, .inl ho, Fr.grown h (Nat.le_refl _) hgr⟩
  · by_cases hs : s.size = 0
    · have hn : s.data.toList = [] := List.eq_nil_of_length_eq_zero (by rw [Array.length_toList]; exact hs)
      refine ⟨some ⟨g, o, none⟩, bl.length, bl.length, w, ?_, ?_, Fr.refl _ _⟩
      · have hf := Lib.run_firstCells_string (P := Tryz.prog) (w := w) 1 s
        rw [hs] at hf
        have hstr : Lib.strCells s = [] := by rw [strCells_bytesOf, hn]; rfl
        rw [hstr] at hf
        simp [Builtin.append_, run_underlying ht, run_underlying Tryz.underlying9, sizeOf, typeInfo, hi, hz1, Builtin.lenOf, hs, hf, storeCells]
      · rw [hn, List.append_nil]
        exact .inr ⟨g, o, rfl, h0, hg, hc⟩
    · have hr := Lib.run_append_grow_string (P := Tryz.prog) (w := w) t 9 ty 5 i0 (.int .u8 0) ht Tryz.underlying9 hi hz0 ⟨g, o, none⟩ bl.length bl.length (bytesOf bl) (by rw [hz1]; simp [bytesOf_length])
        (fun j u hu => by have := hc j u hu; simpa [Addr.add_lit] using this) s (by omega) (by omega) (by rw [hz2]; exact growslice_fits (by omega) (by omega))
      refine ⟨_, _, _, _, hr, .inl ?_, Fr.of_below ⟨rfl, rfl, rfl, by simp, fun k hk => (Below.heap_alloc w.drew _ k hk)⟩⟩
      have ho := own_fresh w hB (bytesOf bl) (Lib.strCells s) (bl.length + s.size) (grownCap w (bl.length + s.size) bl.length 5) (by rw [bytesOf_length, Lib.strCells_length]) (grownCap_ge _ _ _ _) (grownCap_le_maxLen _ _ _ _ (by unfold maxLen; omega))
      rw [hll, bytesOf_append, ← strCells_bytesOf]
      exact ho

/-- append(v, x...), a slice of bytes that is read; x is not empty. -/
theorem bf_append_slice (t ty : TypeId) (ht : Tryz.prog.underlying t = some (.slice 5)) (h : Bf w B v bl) (a : Addr) (c : Nat) (x : List UInt8) (hx : 0 < x.length) (hc : ∀ j u, (bytesOf x)[j]? = some u → w.cell? (a.add j) = some u) (hB : B ≤ w.heap.size) (hlen : bl.length + x.length ≤ 140737488355328) :
    ∃ A n c' w', (Builtin.append_ #[t, t] ty #[v, .slice (some a) x.length c]).run Tryz.prog w = .ok (.slice A n c') w' ∧ Bf w' B (.slice A n c') (bl ++ x) ∧ Fr B w w' := by
  obtain ⟨i0, hi, hz0, hz1, hz2⟩ := info_parts info5
  have h1 : ∀ u ∈ bytesOf x, u.oneCell' = true := by
    intro u hu
    simp only [bytesOf, List.mem_map] at hu
    obtain ⟨b, _, rfl⟩ := hu
    rfl
  have hll : (bl ++ x).length = bl.length + x.length := List.length_append
  rcases h with h | ⟨g, o, rfl, h0, hg, hcc⟩
  · obtain ⟨v', w', hr, ho, hgr, _⟩ := run_append_own (P := Tryz.prog) w B t ty 5 i0 (.int .u8 0) 1 1 ht hi hz0 hz1 hz2 rfl (by decide) v bl.length (bytesOf bl) h a x.length c (bytesOf x) (by rw [bytesOf_length, Nat.mul_one]) hc h1 (by unfold maxLen; omega) (by omega) hB
    rw [← bytesOf_append, ← hll] at ho
    obtain ⟨A, c, rfl⟩ := own_form ho
    exact ⟨A, _, c, w', hr, .inl ho, Fr.grown h (Nat.le_refl _) hgr⟩
  · have hr := run_append_grow (P := Tryz.prog) w t ty 5 i0 (.int .u8 0) ht hi hz0 ⟨g, o, none⟩ bl.length bl.length (bytesOf bl) (by rw [hz1, bytesOf_length, Nat.mul_one])
      (fun j u hu => by have := hcc j u hu; simpa [Addr.add_lit] using this) a x.length c (bytesOf x) (by rw [hz1, bytesOf_length, Nat.mul_one]) hc (by omega) (by omega) (by rw [hz2]; exact growslice_fits (by omega) (by omega))
    refine ⟨_, _, _, _, hr, .inl ?_, Fr.of_below ⟨rfl, rfl, rfl, by simp, fun k hk => (Below.heap_alloc w.drew _ k hk)⟩⟩
    have ho := own_fresh w hB (bytesOf bl) (bytesOf x) (bl.length + x.length) (grownCap w (bl.length + x.length) bl.length 5) (by rw [bytesOf_length, bytesOf_length]) (grownCap_ge _ _ _ _) (grownCap_le_maxLen _ _ _ _ (by unfold maxLen; omega))
    rw [hll, bytesOf_append]
    exact ho

/-! the operations, for the walk -/
theorem wp_bf_string {ops : Array Oper} {rest : List Oper} {op : Oper} {ac : Act} {Q : Exit → Act → World → Prop} (hgd : op.guard = none) (sl x : Operand) (t : TypeId)
    (hop : op.op = .call { callee := .builtin .append, args := #[sl, x], argTypes := #[t, 9] }) (ht : Tryz.prog.underlying t = some (.slice 5)) (hs : ac.eval sl = v) (h : Bf w B v bl) (s : ByteArray) (hx : ac.eval x = .string s) (hB : B ≤ w.heap.size) (hlen : bl.length + s.size ≤ 140737488355328)
    (hk : ∀ A n c w', Bf w' B (.slice A n c) (bl ++ s.data.toList) → Fr B w w' → wpList Tryz.prog ops Q rest (ac.put op.dst (.slice A n c)) w') : wpList Tryz.prog ops Q (op :: rest) ac w := by
  refine wpList_plain hgd fun K hK => ?_
  obtain ⟨A, n, c, w', hr, h2, h3⟩ := bf_append_string t op.type ht h s hB hlen
  unfold Oper.wp execOp
  simp only [hop, resolve, invoke, builtin, Sem.run_bind, Sem.run_pure, Result.andThen_ok, List.map_toArray, List.map_cons, List.map_nil, hs, hx, hr]
  exact hK _ _ (hk A n c w' h2 h3)
theorem wp_bf_slice {ops : Array Oper} {rest : List Oper} {op : Oper} {ac : Act} {Q : Exit → Act → World → Prop} (hgd : op.guard = none) (sl y : Operand) (t : TypeId)
    (hop : op.op = .call { callee := .builtin .append, args := #[sl, y], argTypes := #[t, t] }) (ht : Tryz.prog.underlying t = some (.slice 5)) (hs : ac.eval sl = v) (h : Bf w B v bl) (a : Addr) (c : Nat) (x : List UInt8) (hy : ac.eval y = .slice (some a) x.length c) (hx : 0 < x.length) (hc : ∀ j u, (bytesOf x)[j]? = some u → w.cell? (a.add j) = some u) (hB : B ≤ w.heap.size) (hlen : bl.length + x.length ≤ 140737488355328)
    (hk : ∀ A n c w', Bf w' B (.slice A n c) (bl ++ x) → Fr B w w' → wpList Tryz.prog ops Q rest (ac.put op.dst (.slice A n c)) w') : wpList Tryz.prog ops Q (op :: rest) ac w := by
  refine wpList_plain hgd fun K hK => ?_
  obtain ⟨A, n, c', w', hr, h2, h3⟩ := bf_append_slice t op.type ht h a c x hx hc hB hlen
  unfold Oper.wp execOp
  simp only [hop, resolve, invoke, builtin, Sem.run_bind, Sem.run_pure, Result.andThen_ok, List.map_toArray, List.map_cons, List.map_nil, hs, hy, hr]
  exact hK _ _ (hk A n c' w' h2 h3)
end
end Go.Proofs.YtcllhgajdcemiaaGreatDoor.jb

namespace Go.Proofs
open Go.Shelf
def Tryz.lays197_ren : Go.Shelf.Ren := ⟨fun | 197 => 82 | 260 => 88 | n => n, fun | 9 => 9 | 21 => 21 | 3 => 3 | 4 => 4 | 5 => 5 | 105 => 125 | 119 => 132 | 0 => 0 | 46 => 61 | 139 => 139 | 138 => 138 | n => n, fun | 3 => 4 | 4 => 5 | n => n⟩
theorem Tryz.lays197 : Go.Proofs.Lays.n197 Tryz.prog Tryz.lays197_ren := {
  mixed := by kernel_rfl
  f197 := Tryz.func82.trans (congrArg some (by kernel_rfl))
  f260 := Tryz.func88.trans (congrArg some (by kernel_rfl))
  t0 := Tryz.underlying0
  a0 := Tryz.isAgg0
  z0 := Tryz.sizeOf0
  v0 := Tryz.zeroValue0
  t3 := Tryz.underlying3
  a3 := Tryz.isAgg3
  z3 := Tryz.sizeOf3
  v3 := Tryz.zeroValue3
  t4 := Tryz.underlying4
  a4 := Tryz.isAgg4
  z4 := Tryz.sizeOf4
  v4 := Tryz.zeroValue4
  t5 := Tryz.underlying5
  a5 := Tryz.isAgg5
  z5 := Tryz.sizeOf5
  v5 := Tryz.zeroValue5
  t9 := Tryz.underlying9
  a9 := Tryz.isAgg9
  z9 := Tryz.sizeOf9
  v9 := Tryz.zeroValue9
  t21 := Tryz.underlying21
  a21 := Tryz.isAgg21
  z21 := Tryz.sizeOf21
  v21 := Tryz.zeroValue21
  t46 := Tryz.underlying61
  a46 := Tryz.isAgg61
  z46 := Tryz.sizeOf61
  v46 := Tryz.zeroValue61
  t105 := Tryz.underlying125
  a105 := Tryz.isAgg125
  z105 := Tryz.sizeOf125
  v105 := Tryz.zeroValue125
  t119 := Tryz.underlying132
  a119 := Tryz.isAgg132
  z119 := Tryz.sizeOf132
  t138 := Tryz.underlying138
  a138 := Tryz.isAgg138
  z138 := Tryz.sizeOf138
  v138 := Tryz.zeroValue138
  t139 := Tryz.underlying139
  a139 := Tryz.isAgg139
  z139 := Tryz.sizeOf139
  v139 := Tryz.zeroValue139
  g3 := by kernel_rfl
  g4 := by kernel_rfl }
open Go.RowKit Go.Lib in
/-- unicode/utf8.DecodeRuneInString at every string. -/
theorem Tryz.utf8_DecodeRuneInString (s : ByteArray) (w : World) (hT : Lib.Utf8Tabs 4 5 w) :
    Calls Tryz.prog 82 #[.string s] w fun e w' => e = .returned (.tuple #[.int .i32 (Lib.decodeGo s).1, .int .i64 (Lib.decodeGo s).2]) ∧ Below w.heap.size w w' := Any.utf8_DecodeRuneInString Tryz.lays197 s w hT
end Go.Proofs

namespace Go.Proofs.YtcllhgajdcemiaaGreatDoor.jb
open Go.RowKit
open Go.Proofs.YtcllhgajdcemiaaGreatDoor.wk (Blk bytesOf bytesOf_append bytesOf_length own_form own_blk_ne)

theorem Fr.setNew {B : Nat} {w w' : World} (h : Fr B w w') {p : Addr} (hp : w.heap.size ≤ p.block) (u : Value) : Fr B w (w'.setCell p u) :=
  ⟨h.os, h.tape, h.output, by have := h.size; simp [World.setCell] at this ⊢; omega, fun k hk hc => (Below.heap_setCell w' p u k (by omega)).trans (h.block k hk hc)⟩
theorem Fr.alloc {B : Nat} {w w' : World} (h : Fr B w w') (o : Obj) : Fr B w (w'.alloc o) :=
  ⟨h.os, h.tape, h.output, by have := h.size; simp; omega, fun k hk hc => (Below.heap_alloc w' o k (by have := h.size; omega)).trans (h.block k hk hc)⟩

/-- the box of the escaper's buffer. -/
structure EscSt (w0 : World) (B bx : Nat) (wr : World) (bl : List UInt8) : Prop where
  b : ∃ A n c, Blk wr bx 60 #[.slice A n c] ∧ Bf wr B (.slice A n c) bl
  fr : Fr B w0 wr
  hx : w0.heap.size ≤ bx
  hB : B ≤ w0.heap.size

theorem EscSt.drew {w0 wr : World} {B bx : Nat} {bl : List UInt8} (h : EscSt w0 B bx wr bl) : EscSt w0 B bx wr.drew bl := ⟨h.b, h.fr.drew, h.hx, h.hB⟩
theorem EscSt.below {w0 wr w1 : World} {B bx : Nat} {bl : List UInt8} (h : EscSt w0 B bx wr bl) (hb : Below wr.heap.size wr w1) : EscSt w0 B bx w1 bl := by
  obtain ⟨A, n, c, h1, h2⟩ := h.b
  exact ⟨⟨A, n, c, h1.below hb h1.lt, h2.below hb (Nat.le_trans h.hB h.fr.size)⟩, h.fr.trans (Fr.of_below hb), h.hx, h.hB⟩
/-- the new slice stored into the box. -/
theorem EscSt.put {w0 w1 : World} {B bx : Nat} {bl : List UInt8} {cs : Array Value} (hb : Blk w1 bx 60 cs) (hs : cs.size = 1) {A : Option Addr} {n c : Nat} (h : Bf w1 B (.slice A n c) bl) (hf : Fr B w0 w1) (hx : w0.heap.size ≤ bx) (hB : B ≤ w0.heap.size) :
    EscSt w0 B bx (w1.setCell ⟨bx, 0, none⟩ (.slice A n c)) bl := by
  refine ⟨⟨A, n, c, ?_, h.set_ hb (by decide) (by omega) 0 _⟩, hf.setNew (p := ⟨bx, 0, none⟩) hx _, hx, hB⟩
  have := hb.set_ 0 (.slice A n c)
  obtain ⟨l⟩ := cs
  match l, hs with
  | [u], _ => simpa using this

set_option maxHeartbeats 1000000 in
theorem char_any {w0 wr : World} {B bx : Nat} {bl : List UInt8} (h : EscSt w0 B bx wr bl) (c : UInt8) (hlen : bl.length + 1 ≤ 140737488355328) :
    Calls Tryz.prog 80 #[.int .u8 c.toNat, .pointer (some ⟨bx, 0, none⟩)] wr fun e w' => e = .returned (.tuple #[]) ∧ EscSt w0 B bx w' (bl ++ [c]) := by
  obtain ⟨A, n, c0, h1, h2⟩ := h.b
  have hc : wr.cell? ⟨bx, 0, none⟩ = some (.slice A n c0) := h1.cell 0
  have hba : Below wr.heap.size wr (wr.alloc (.cells #[.int .u8 c.toNat] 5)) := (Below.refl _ _).alloc (Nat.le_refl _) _
  have hBr : B ≤ wr.heap.size := Nat.le_trans h.hB h.fr.size
  have HF := Lib.hid (h.fr.alloc (.cells #[.int .u8 c.toNat] 5))
  have HX := Lib.hid (And.intro h.hx h.hB)
  have H1 := Lib.hid (h1.alloc (.cells #[.int .u8 c.toNat] 5))
  have h2a := h2.below hba hBr
  have hlt := h1.lt
  clear h h1 h2 hba
  go_enter Tryz.func80, Tryz.ntmps80
  go_wp2_with (at_builtin; go_must (refine wp_bf_slice rfl _ _ _ rfl Tryz.underlying60 rfl h2a ⟨wr.heap.size, 0, none⟩ 1 [c] rfl (by simp) ?hc (by simp; omega) hlen ?_))
  case hc =>
    intro j u hj
    match j, hj with
    | 0, hj => simp [wk.bytesOf] at hj; subst hj; simp [Addr.add]
  intro A' n' c' w1 hb1 hf1
  have k1 := hf1.blk H1.out (by decide)
  have e1 : w1.cell? ⟨bx, 0, none⟩ = some (.slice A n c0) := k1.cell 0
  have e2 : w1.frozen? ⟨bx, 0, none⟩ = false := k1.frozen 0
  have HP := Lib.hid (EscSt.put k1 rfl hb1 (HF.out.trans hf1) HX.out.1 HX.out.2)
  clear k1 hb1 hf1 h2a hc
  go_wp2
  go_end0
  exact ⟨rfl, HP.out⟩

set_option maxHeartbeats 1000000 in
theorem str_any {w0 wr : World} {B bx : Nat} {bl : List UInt8} (h : EscSt w0 B bx wr bl) (s : ByteArray) (hlen : bl.length + s.size ≤ 140737488355328) :
    Calls Tryz.prog 81 #[.string s, .pointer (some ⟨bx, 0, none⟩)] wr fun e w' => e = .returned (.tuple #[]) ∧ EscSt w0 B bx w' (bl ++ s.data.toList) := by
  obtain ⟨A, n, c0, h1, h2⟩ := h.b
  have hc : wr.cell? ⟨bx, 0, none⟩ = some (.slice A n c0) := h1.cell 0
  have hBr : B ≤ wr.heap.size := Nat.le_trans h.hB h.fr.size
  have HF := Lib.hid h.fr
  have HX := Lib.hid (And.intro h.hx h.hB)
  have H1 := Lib.hid h1
  clear h h1
  go_enter Tryz.func81, Tryz.ntmps81
  go_wp2_with (at_builtin; go_must (refine wp_bf_string rfl _ _ _ rfl Tryz.underlying60 rfl h2 s rfl hBr hlen ?_))
  intro A' n' c' w1 hb1 hf1
  have k1 := hf1.blk H1.out (by decide)
  have e1 : w1.cell? ⟨bx, 0, none⟩ = some (.slice A n c0) := k1.cell 0
  have e2 : w1.frozen? ⟨bx, 0, none⟩ = false := k1.frozen 0
  have HP := Lib.hid (EscSt.put k1 rfl hb1 (HF.out.trans hf1) HX.out.1 HX.out.2)
  clear k1 hb1 hf1 h2 hc hlen
  go_wp2
  go_end0
  exact ⟨rfl, HP.out⟩
end Go.Proofs.YtcllhgajdcemiaaGreatDoor.jb

namespace Go.Proofs.YtcllhgajdcemiaaGreatDoor.jb
open Go.RowKit
set_option linter.unusedSimpArgs false
set_option linter.unusedVariables false
open Go.Proofs.YtcllhgajdcemiaaGreatDoor.wk (Blk bytesOf)

/-- safeSet (variable 0), whole. -/
def SafeT (w : World) : Prop := ∀ c, c < 128 → w.cell? ⟨0, c, none⟩ = some (.bool (safeB c))
theorem SafeT.below {w w' : World} {B : Nat} (h : SafeT w) (hb : Below B w w') (hB : 0 < B) : SafeT w' := fun c hc => (hb.cell (p := ⟨0, c, none⟩) hB).trans (h c hc)
/-- the tables that the JSON handler reads. -/
structure Tabs (w : World) : Prop where
  safe : SafeT w
  utf : Lib.Utf8Tabs 4 5 w
theorem Tabs.below {w w' : World} {B : Nat} (h : Tabs w) (hb : Below B w w') (hB : 6 ≤ B) : Tabs w' :=
  ⟨h.safe.below hb (by omega), fun c hc => (hb.cell (p := ⟨4, c, none⟩) (by show 4 < B; omega)).trans (h.utf.1 c hc),
    fun i hi => ⟨(hb.cell (p := ⟨5, 2 * i, none⟩) (by show 5 < B; omega)).trans (h.utf.2 i hi).1, (hb.cell (p := ⟨5, 2 * i + 1, none⟩) (by show 5 < B; omega)).trans (h.utf.2 i hi).2⟩⟩

/-- what has been read and is not written yet. -/
def pend (s : ByteArray) (st i : Nat) : List UInt8 := (s.data.toList.take i).drop st
theorem pend_length (s : ByteArray) {st i : Nat} (h : st ≤ i) (hi : i ≤ s.size) : (pend s st i).length = i - st := by
  unfold pend
  rw [List.length_drop, List.length_take, Array.length_toList]
  have : s.data.size = s.size := rfl
  omega
theorem pend_self (s : ByteArray) (i : Nat) : pend s i i = [] := by
  unfold pend
  exact List.drop_eq_nil_of_le (by rw [List.length_take]; omega)
theorem pend_extract (s : ByteArray) (st i : Nat) : (s.extract st i).data.toList = pend s st i := by
  unfold pend
  rw [Lib.extract_data, List.drop_take]
theorem pend_snoc (s : ByteArray) {st i k : Nat} (h : st ≤ i) (hi : i + k ≤ s.size) : pend s st (i + k) = pend s st i ++ (s.data.toList.drop i).take k := by
  unfold pend
  rw [List.take_add, List.drop_append_of_le_length]
  rw [List.length_take, Array.length_toList]
  have : s.data.size = s.size := rfl
  omega
theorem drop_cons (s : ByteArray) (i : Nat) (h : i < s.size) : s.data.toList.drop i = s[i] :: s.data.toList.drop (i + 1) := by
  have h' : i < s.data.toList.length := by rw [Array.length_toList]; exact h
  rw [List.drop_eq_getElem_cons h']
  rfl

/-- the loop's relation: what is written, what is pending, what is to come. -/
def EscRel (w : World) (B bx : Nat) (s : ByteArray) (l : List UInt8) (wr : World) (st i : Nat) : Prop :=
  ∃ bl, EscSt w B bx wr bl ∧ bl ++ (pend s st i ++ escL (s.data.toList.drop i)) = l ++ escL s.data.toList ∧ bl.length ≤ l.length + 6 * st

section
variable {w wr W : World} {B bx : Nat} {s : ByteArray} {l bl x : List UInt8} {st i : Nat}
theorem EscRel.start (h : EscSt w B bx wr l) : EscRel w B bx s l wr 0 0 := ⟨l, h, by rw [pend_self]; rfl, by omega⟩
/-- something is written behind the pending bytes: x stands for the element that begins at i and has k bytes. -/
theorem EscRel.wrote (k : Nat) (hk1 : 1 ≤ k) (h1 : st ≤ i) (h2 : i + k ≤ s.size) (heq : bl ++ (pend s st i ++ escL (s.data.toList.drop i)) = l ++ escL s.data.toList) (hl : bl.length ≤ l.length + 6 * st)
    (hx : x.length ≤ 6) (hE : EscSt w B bx W (bl ++ (pend s st i ++ x))) (hs : escL (s.data.toList.drop i) = x ++ escL (s.data.toList.drop (i + k))) : EscRel w B bx s l W (i + k) (i + k) := by
  refine ⟨_, hE, ?_, ?_⟩
  · rw [pend_self, List.nil_append, ← heq, hs]
    simp
  · rw [List.length_append, List.length_append, pend_length s h1 (by omega)]
    omega
/-- k bytes more are pending. -/
theorem EscRel.kept (k : Nat) (h1 : st ≤ i) (h2 : i + k ≤ s.size) (heq : bl ++ (pend s st i ++ escL (s.data.toList.drop i)) = l ++ escL s.data.toList) (hl : bl.length ≤ l.length + 6 * st)
    (hE : EscSt w B bx W bl) (hs : escL (s.data.toList.drop i) = (s.data.toList.drop i).take k ++ escL (s.data.toList.drop (i + k))) : EscRel w B bx s l W st (i + k) := by
  refine ⟨bl, hE, ?_, hl⟩
  rw [← heq, hs, pend_snoc s h1 h2]
  simp
theorem esc_ascii (h : i < s.size) (hc : s[i].toNat < 128) : escL (s.data.toList.drop i) = escA s[i] ++ escL (s.data.toList.drop (i + 1)) := by
  rw [drop_cons s i h, escL_ascii _ _ hc]
theorem esc_rune (h : i < s.size) (hc : ¬ s[i].toNat < 128) : escL (s.data.toList.drop i) = escR (s.data.toList.drop i) (Lib.decodeL (s.data.toList.drop i)).1 (Lib.decodeL (s.data.toList.drop i)).2 ++ escL (s.data.toList.drop (i + (Lib.decodeL (s.data.toList.drop i)).2)) := by
  have h1 := decodeL_ge1 (s.data.toList.drop i)
  rw [drop_cons s i h] at h1 ⊢
  rw [escL_rune _ _ hc, List.drop_drop]
  congr 3
  omega
theorem and_8232 (r : Nat) (h : r = 8232) : bits BinOp.and IntKind.i32 (r : Int) 15 = 8 := by
  subst h
  decide
theorem and_8233 (r : Nat) (h : r = 8233) : bits BinOp.and IntKind.i32 (r : Int) 15 = 9 := by
  subst h
  decide
theorem escA_bs (c : UInt8) (hs : safeB c.toNat = false) (h : c.toNat = 92) : escA c = [92, c] := by
  unfold escA
  rw [if_neg (by rw [hs]; decide), if_pos (.inl h)]
theorem escA_qu (c : UInt8) (hs : safeB c.toNat = false) (h : c.toNat = 34) : escA c = [92, c] := by
  unfold escA
  rw [if_neg (by rw [hs]; decide), if_pos (.inr h)]
theorem escA_n (c : UInt8) (hs : safeB c.toNat = false) (h : c.toNat = 10) : escA c = [92, 110] := by
  unfold escA
  rw [if_neg (by rw [hs]; decide), if_neg (by omega), if_pos h]
theorem escA_r (c : UInt8) (hs : safeB c.toNat = false) (h : c.toNat = 13) : escA c = [92, 114] := by
  unfold escA
  rw [if_neg (by rw [hs]; decide), if_neg (by omega), if_neg (by omega), if_pos h]
theorem escA_t (c : UInt8) (hs : safeB c.toNat = false) (h : c.toNat = 9) : escA c = [92, 116] := by
  unfold escA
  rw [if_neg (by rw [hs]; decide), if_neg (by omega), if_neg (by omega), if_neg (by omega), if_pos h]
theorem escA_x (c : UInt8) (hs : safeB c.toNat = false) (h : ¬ c.toNat = 92 ∧ ¬ c.toNat = 34 ∧ ¬ c.toNat = 10 ∧ ¬ c.toNat = 13 ∧ ¬ c.toNat = 9) : escA c = [92, 117, 48, 48, hexd (c.toNat / 16), hexd (c.toNat % 16)] := by
  obtain ⟨h1, h2, h3, h4, h5⟩ := h
  unfold escA
  rw [if_neg (by rw [hs]; decide), if_neg (by omega), if_neg h3, if_neg h4, if_neg h5]
theorem hex_get (n : Nat) (h : n < (⟨#[48, 49, 50, 51, 52, 53, 54, 55, 56, 57, 97, 98, 99, 100, 101, 102]⟩ : ByteArray).size) : (⟨#[48, 49, 50, 51, 52, 53, 54, 55, 56, 57, 97, 98, 99, 100, 101, 102]⟩ : ByteArray)[n] = hexd n := by
  have all : ∀ m : Fin 16, (#[48, 49, 50, 51, 52, 53, 54, 55, 56, 57, 97, 98, 99, 100, 101, 102] : Array UInt8)[m.val]'m.isLt = hexd m.val := by decide
  exact all ⟨n, h⟩
theorem decode_call (wr : World) (hT : Tabs wr) (s : ByteArray) (i r k : Nat) (hi : i < s.size) (hd : Lib.decodeL (s.data.toList.drop i) = (r, k)) :
    Calls Tryz.prog 82 #[.string (s.extract i s.size)] wr fun e w' => e = .returned (.tuple #[.int .i32 r, .int .i64 k]) ∧ Below wr.heap.size wr w' := by
  have h := Tryz.utf8_DecodeRuneInString (s.extract i s.size) wr hT.utf
  rw [decodeGo_at s i hi, hd] at h
  exact h
theorem str_cut {w0 : World} (h : EscSt w0 B bx wr bl) (s : ByteArray) (st i : Nat) (h1 : st ≤ i) (h2 : i ≤ s.size) (hlen : bl.length + s.size ≤ 140737488355328) :
    Calls Tryz.prog 81 #[.string (s.extract st i), .pointer (some ⟨bx, 0, none⟩)] wr fun e w' => e = .returned (.tuple #[]) ∧ EscSt w0 B bx w' (bl ++ pend s st i) := by
  have := str_any h (s.extract st i) (by rw [ByteArray.size_extract]; omega)
  rw [pend_extract] at this
  exact this
end

def EscGives (w : World) (B : Nat) (bl : List UInt8) (e : Ending) (w' : World) : Prop := ∃ A n c, e = .returned (.slice A n c) ∧ Bf w' B (.slice A n c) bl ∧ Fr B w w'

set_option maxRecDepth 100000 in
set_option maxHeartbeats 8000000 in
theorem esc_any (s : ByteArray) (w : World) (hT : Tabs w) (B : Nat) (v : Value) (l : List UInt8) (hb : Bf w B v l) (hB : B ≤ w.heap.size) (hB6 : 6 ≤ B) (hlen : l.length + 6 * s.size ≤ 70368744177664) :
    Calls Tryz.prog 66 #[v, .string s] w (EscGives w B (l ++ escL s.data.toList)) := by
  obtain ⟨A, c, rfl⟩ := hb.form
  have hmf : ∀ (fn : Fn) (first cap : Array Value) (w : World), (Instr.makeFunc fn first cap).run Tryz.prog w = .ok (.func fn first cap) w := fun _ _ _ _ => rfl
  have hsz : s.size ≤ 9223372036854775807 := by omega
  have hE0 : EscSt w B w.heap.size (w.alloc (.cells #[.slice A l.length c] 60)) l :=
    ⟨⟨A, l.length, c, Blk.new _ _ _, hb.below ((Below.refl _ _).alloc (Nat.le_refl _) _) hB⟩, (Fr.refl B w).alloc _, Nat.le_refl _, hB⟩
  have HE0 := Lib.hid (EscRel.start (s := s) hE0)
  have HL := Lib.hid hlen
  have HT := Lib.hid hT
  have HB := Lib.hid (And.intro hB hB6)
  clear hE0 hlen hT hb hB hB6
  go_enter Tryz.func66, Tryz.ntmps66
  go_wp2
  go_loopw [7, 8] (fun v7 v8 wr => ∃ st i : Nat, st ≤ i ∧ i ≤ s.size ∧ v7 = .int .i64 st ∧ v8 = .int .i64 i ∧ EscRel w B w.heap.size s l wr st i) (fun _ v8 _ => s.size - (intOf v8).toNat)
  case atStart => exact ⟨0, 0, Nat.le_refl _, Nat.zero_le _, rfl, rfl, HE0.out⟩
  case round =>
    obtain ⟨st, i, hst, hi, rfl, rfl, bl, hE, heq, hbl⟩ := hrel
    have HQ := Lib.hid heq
    have HBL := Lib.hid hbl
    have HTr := Lib.hid (HT.out.below (hE.fr.toBelow HB.out.1) HB.out.2)
    have HE := Lib.hid hE
    clear heq hbl hE HE0
    by_cases hlt : i < s.size
    · by_cases hc : s[i].toNat < 128
      · have hcell : wr.cell? ⟨0, s[i].toNat, none⟩ = some (.bool (safeB s[i].toNat)) := HTr.out.safe _ hc
        by_cases hs : safeB s[i].toNat = true
        · rw [hs] at hcell
          have HR := Lib.hid (EscRel.kept 1 hst hlt HQ.out HBL.out HE.out (by rw [esc_ascii hlt hc, drop_cons s i hlt]; simp [escA, hs]))
          clear hs
          go_wp2
          go_roundw
          case rel => exact ⟨st, i + 1, by omega, by omega, by go_num, by go_num, HR.out⟩
          case measure => simp [intOf]; omega
        · rw [Bool.not_eq_true] at hs
          rw [hs] at hcell
          have HS := Lib.hid hs
          have HC := Lib.hid hc
          have HP := Lib.hid (pend_length s hst hi)
          clear hs
          by_cases h92 : s[i].toNat = 92
          · have HF := Lib.hid h92
            have d0 : ((s[i].toNat : Int) == 92) = true := beq_iff_eq.2 (by omega)
            clear h92
            by_cases hp : st < i
            · have HX := hp
              go_wp2_with fail
              refine (str_cut HE.out s st i hst hi (by have := HBL.out; have := HL.out; omega)).mono ?_
              rintro e W1 ⟨rfl, hE1⟩
              have HE11 := Lib.hid hE1
              clear hE1 HE
              go_wp2_with fail
              refine (char_any HE11.out 92 (by have := HBL.out; have := HL.out; have := HP.out; (try simp only [List.length_append, List.length_cons, List.length_nil]); omega)).mono ?_
              rintro e W2 ⟨rfl, hE2⟩
              have HE12 := Lib.hid hE2
              clear hE2 HE11
              go_wp2_with fail
              refine (char_any HE12.out s[i] (by have := HBL.out; have := HL.out; have := HP.out; (try simp only [List.length_append, List.length_cons, List.length_nil]); omega)).mono ?_
              rintro e W3 ⟨rfl, hE3⟩
              have HE13 := Lib.hid hE3
              clear hE3 HE12
              have HR := Lib.hid (EscRel.wrote (x := [92, s[i]]) 1 (by omega) hst hlt HQ.out HBL.out (by simp) (by have := HE13.out; simpa using this) (by rw [esc_ascii hlt HC.out, escA_bs _ HS.out HF.out]))
              clear HE13 HQ HBL HP
              go_wp2
              go_roundw
              case rel => exact ⟨_, _, Nat.le_refl _, hlt, by go_num, by go_num, HR.out⟩
              case measure => simp [intOf]; omega
            · have HPZ := Lib.hid (show pend s st i = [] by (obtain rfl : st = i := by omega); exact pend_self s st)
              go_wp2_with fail
              refine (char_any HE.out 92 (by have := HBL.out; have := HL.out; have := HP.out; (try simp only [List.length_append, List.length_cons, List.length_nil]); omega)).mono ?_
              rintro e W1 ⟨rfl, hE1⟩
              have HE11 := Lib.hid hE1
              clear hE1 HE
              go_wp2_with fail
              refine (char_any HE11.out s[i] (by have := HBL.out; have := HL.out; have := HP.out; (try simp only [List.length_append, List.length_cons, List.length_nil]); omega)).mono ?_
              rintro e W2 ⟨rfl, hE2⟩
              have HE12 := Lib.hid hE2
              clear hE2 HE11
              have HR := Lib.hid (EscRel.wrote (x := [92, s[i]]) 1 (by omega) hst hlt HQ.out HBL.out (by simp) (by have := HE12.out; rw [HPZ.out]; simpa using this) (by rw [esc_ascii hlt HC.out, escA_bs _ HS.out HF.out]))
              clear HE12 HQ HBL HP
              go_wp2
              go_roundw
              case rel => exact ⟨_, _, Nat.le_refl _, hlt, by go_num, by go_num, HR.out⟩
              case measure => simp [intOf]; omega
          · skip
            by_cases h34 : s[i].toNat = 34
            · have HF := Lib.hid h34
              have d0 : ((s[i].toNat : Int) == 92) = false := beq_eq_false_iff_ne.2 (by omega)
              have d1 : ((s[i].toNat : Int) == 34) = true := beq_iff_eq.2 (by omega)
              clear h34
              by_cases hp : st < i
              · have HX := hp
                go_wp2_with fail
                refine (str_cut HE.out s st i hst hi (by have := HBL.out; have := HL.out; omega)).mono ?_
                rintro e W1 ⟨rfl, hE1⟩
                have HE11 := Lib.hid hE1
                clear hE1 HE
                go_wp2_with fail
                refine (char_any HE11.out 92 (by have := HBL.out; have := HL.out; have := HP.out; (try simp only [List.length_append, List.length_cons, List.length_nil]); omega)).mono ?_
                rintro e W2 ⟨rfl, hE2⟩
                have HE12 := Lib.hid hE2
                clear hE2 HE11
                go_wp2_with fail
                refine (char_any HE12.out s[i] (by have := HBL.out; have := HL.out; have := HP.out; (try simp only [List.length_append, List.length_cons, List.length_nil]); omega)).mono ?_
                rintro e W3 ⟨rfl, hE3⟩
                have HE13 := Lib.hid hE3
                clear hE3 HE12
                have HR := Lib.hid (EscRel.wrote (x := [92, s[i]]) 1 (by omega) hst hlt HQ.out HBL.out (by simp) (by have := HE13.out; simpa using this) (by rw [esc_ascii hlt HC.out, escA_qu _ HS.out HF.out]))
                clear HE13 HQ HBL HP
                go_wp2
                go_roundw
                case rel => exact ⟨_, _, Nat.le_refl _, hlt, by go_num, by go_num, HR.out⟩
                case measure => simp [intOf]; omega
              · have HPZ := Lib.hid (show pend s st i = [] by (obtain rfl : st = i := by omega); exact pend_self s st)
                go_wp2_with fail
                refine (char_any HE.out 92 (by have := HBL.out; have := HL.out; have := HP.out; (try simp only [List.length_append, List.length_cons, List.length_nil]); omega)).mono ?_
                rintro e W1 ⟨rfl, hE1⟩
                have HE11 := Lib.hid hE1
                clear hE1 HE
                go_wp2_with fail
                refine (char_any HE11.out s[i] (by have := HBL.out; have := HL.out; have := HP.out; (try simp only [List.length_append, List.length_cons, List.length_nil]); omega)).mono ?_
                rintro e W2 ⟨rfl, hE2⟩
                have HE12 := Lib.hid hE2
                clear hE2 HE11
                have HR := Lib.hid (EscRel.wrote (x := [92, s[i]]) 1 (by omega) hst hlt HQ.out HBL.out (by simp) (by have := HE12.out; rw [HPZ.out]; simpa using this) (by rw [esc_ascii hlt HC.out, escA_qu _ HS.out HF.out]))
                clear HE12 HQ HBL HP
                go_wp2
                go_roundw
                case rel => exact ⟨_, _, Nat.le_refl _, hlt, by go_num, by go_num, HR.out⟩
                case measure => simp [intOf]; omega
            · skip
              by_cases h10 : s[i].toNat = 10
              · have HF := Lib.hid h10
                have d0 : ((s[i].toNat : Int) == 92) = false := beq_eq_false_iff_ne.2 (by omega)
                have d1 : ((s[i].toNat : Int) == 34) = false := beq_eq_false_iff_ne.2 (by omega)
                have d2 : ((s[i].toNat : Int) == 10) = true := beq_iff_eq.2 (by omega)
                clear h10
                by_cases hp : st < i
                · have HX := hp
                  go_wp2_with fail
                  refine (str_cut HE.out s st i hst hi (by have := HBL.out; have := HL.out; omega)).mono ?_
                  rintro e W1 ⟨rfl, hE1⟩
                  have HE11 := Lib.hid hE1
                  clear hE1 HE
                  go_wp2_with fail
                  refine (char_any HE11.out 92 (by have := HBL.out; have := HL.out; have := HP.out; (try simp only [List.length_append, List.length_cons, List.length_nil]); omega)).mono ?_
                  rintro e W2 ⟨rfl, hE2⟩
                  have HE12 := Lib.hid hE2
                  clear hE2 HE11
                  go_wp2_with fail
                  refine (char_any HE12.out 110 (by have := HBL.out; have := HL.out; have := HP.out; (try simp only [List.length_append, List.length_cons, List.length_nil]); omega)).mono ?_
                  rintro e W3 ⟨rfl, hE3⟩
                  have HE13 := Lib.hid hE3
                  clear hE3 HE12
                  have HR := Lib.hid (EscRel.wrote (x := [92, 110]) 1 (by omega) hst hlt HQ.out HBL.out (by simp) (by have := HE13.out; simpa using this) (by rw [esc_ascii hlt HC.out, escA_n _ HS.out HF.out]))
                  clear HE13 HQ HBL HP
                  go_wp2
                  go_roundw
                  case rel => exact ⟨_, _, Nat.le_refl _, hlt, by go_num, by go_num, HR.out⟩
                  case measure => simp [intOf]; omega
                · have HPZ := Lib.hid (show pend s st i = [] by (obtain rfl : st = i := by omega); exact pend_self s st)
                  go_wp2_with fail
                  refine (char_any HE.out 92 (by have := HBL.out; have := HL.out; have := HP.out; (try simp only [List.length_append, List.length_cons, List.length_nil]); omega)).mono ?_
                  rintro e W1 ⟨rfl, hE1⟩
                  have HE11 := Lib.hid hE1
                  clear hE1 HE
                  go_wp2_with fail
                  refine (char_any HE11.out 110 (by have := HBL.out; have := HL.out; have := HP.out; (try simp only [List.length_append, List.length_cons, List.length_nil]); omega)).mono ?_
                  rintro e W2 ⟨rfl, hE2⟩
                  have HE12 := Lib.hid hE2
                  clear hE2 HE11
                  have HR := Lib.hid (EscRel.wrote (x := [92, 110]) 1 (by omega) hst hlt HQ.out HBL.out (by simp) (by have := HE12.out; rw [HPZ.out]; simpa using this) (by rw [esc_ascii hlt HC.out, escA_n _ HS.out HF.out]))
                  clear HE12 HQ HBL HP
                  go_wp2
                  go_roundw
                  case rel => exact ⟨_, _, Nat.le_refl _, hlt, by go_num, by go_num, HR.out⟩
                  case measure => simp [intOf]; omega
              · skip
                by_cases h13 : s[i].toNat = 13
                · have HF := Lib.hid h13
                  have d0 : ((s[i].toNat : Int) == 92) = false := beq_eq_false_iff_ne.2 (by omega)
                  have d1 : ((s[i].toNat : Int) == 34) = false := beq_eq_false_iff_ne.2 (by omega)
                  have d2 : ((s[i].toNat : Int) == 10) = false := beq_eq_false_iff_ne.2 (by omega)
                  have d3 : ((s[i].toNat : Int) == 13) = true := beq_iff_eq.2 (by omega)
                  clear h13
                  by_cases hp : st < i
                  · have HX := hp
                    go_wp2_with fail
                    refine (str_cut HE.out s st i hst hi (by have := HBL.out; have := HL.out; omega)).mono ?_
                    rintro e W1 ⟨rfl, hE1⟩
                    have HE11 := Lib.hid hE1
                    clear hE1 HE
                    go_wp2_with fail
                    refine (char_any HE11.out 92 (by have := HBL.out; have := HL.out; have := HP.out; (try simp only [List.length_append, List.length_cons, List.length_nil]); omega)).mono ?_
                    rintro e W2 ⟨rfl, hE2⟩
                    have HE12 := Lib.hid hE2
                    clear hE2 HE11
                    go_wp2_with fail
                    refine (char_any HE12.out 114 (by have := HBL.out; have := HL.out; have := HP.out; (try simp only [List.length_append, List.length_cons, List.length_nil]); omega)).mono ?_
                    rintro e W3 ⟨rfl, hE3⟩
                    have HE13 := Lib.hid hE3
                    clear hE3 HE12
                    have HR := Lib.hid (EscRel.wrote (x := [92, 114]) 1 (by omega) hst hlt HQ.out HBL.out (by simp) (by have := HE13.out; simpa using this) (by rw [esc_ascii hlt HC.out, escA_r _ HS.out HF.out]))
                    clear HE13 HQ HBL HP
                    go_wp2
                    go_roundw
                    case rel => exact ⟨_, _, Nat.le_refl _, hlt, by go_num, by go_num, HR.out⟩
                    case measure => simp [intOf]; omega
                  · have HPZ := Lib.hid (show pend s st i = [] by (obtain rfl : st = i := by omega); exact pend_self s st)
                    go_wp2_with fail
                    refine (char_any HE.out 92 (by have := HBL.out; have := HL.out; have := HP.out; (try simp only [List.length_append, List.length_cons, List.length_nil]); omega)).mono ?_
                    rintro e W1 ⟨rfl, hE1⟩
                    have HE11 := Lib.hid hE1
                    clear hE1 HE
                    go_wp2_with fail
                    refine (char_any HE11.out 114 (by have := HBL.out; have := HL.out; have := HP.out; (try simp only [List.length_append, List.length_cons, List.length_nil]); omega)).mono ?_
                    rintro e W2 ⟨rfl, hE2⟩
                    have HE12 := Lib.hid hE2
                    clear hE2 HE11
                    have HR := Lib.hid (EscRel.wrote (x := [92, 114]) 1 (by omega) hst hlt HQ.out HBL.out (by simp) (by have := HE12.out; rw [HPZ.out]; simpa using this) (by rw [esc_ascii hlt HC.out, escA_r _ HS.out HF.out]))
                    clear HE12 HQ HBL HP
                    go_wp2
                    go_roundw
                    case rel => exact ⟨_, _, Nat.le_refl _, hlt, by go_num, by go_num, HR.out⟩
                    case measure => simp [intOf]; omega
                · skip
                  by_cases h9 : s[i].toNat = 9
                  · have HF := Lib.hid h9
                    have d0 : ((s[i].toNat : Int) == 92) = false := beq_eq_false_iff_ne.2 (by omega)
                    have d1 : ((s[i].toNat : Int) == 34) = false := beq_eq_false_iff_ne.2 (by omega)
                    have d2 : ((s[i].toNat : Int) == 10) = false := beq_eq_false_iff_ne.2 (by omega)
                    have d3 : ((s[i].toNat : Int) == 13) = false := beq_eq_false_iff_ne.2 (by omega)
                    have d4 : ((s[i].toNat : Int) == 9) = true := beq_iff_eq.2 (by omega)
                    clear h9
                    by_cases hp : st < i
                    · have HX := hp
                      go_wp2_with fail
                      refine (str_cut HE.out s st i hst hi (by have := HBL.out; have := HL.out; omega)).mono ?_
                      rintro e W1 ⟨rfl, hE1⟩
                      have HE11 := Lib.hid hE1
                      clear hE1 HE
                      go_wp2_with fail
                      refine (char_any HE11.out 92 (by have := HBL.out; have := HL.out; have := HP.out; (try simp only [List.length_append, List.length_cons, List.length_nil]); omega)).mono ?_
                      rintro e W2 ⟨rfl, hE2⟩
                      have HE12 := Lib.hid hE2
                      clear hE2 HE11
                      go_wp2_with fail
                      refine (char_any HE12.out 116 (by have := HBL.out; have := HL.out; have := HP.out; (try simp only [List.length_append, List.length_cons, List.length_nil]); omega)).mono ?_
                      rintro e W3 ⟨rfl, hE3⟩
                      have HE13 := Lib.hid hE3
                      clear hE3 HE12
                      have HR := Lib.hid (EscRel.wrote (x := [92, 116]) 1 (by omega) hst hlt HQ.out HBL.out (by simp) (by have := HE13.out; simpa using this) (by rw [esc_ascii hlt HC.out, escA_t _ HS.out HF.out]))
                      clear HE13 HQ HBL HP
                      go_wp2
                      go_roundw
                      case rel => exact ⟨_, _, Nat.le_refl _, hlt, by go_num, by go_num, HR.out⟩
                      case measure => simp [intOf]; omega
                    · have HPZ := Lib.hid (show pend s st i = [] by (obtain rfl : st = i := by omega); exact pend_self s st)
                      go_wp2_with fail
                      refine (char_any HE.out 92 (by have := HBL.out; have := HL.out; have := HP.out; (try simp only [List.length_append, List.length_cons, List.length_nil]); omega)).mono ?_
                      rintro e W1 ⟨rfl, hE1⟩
                      have HE11 := Lib.hid hE1
                      clear hE1 HE
                      go_wp2_with fail
                      refine (char_any HE11.out 116 (by have := HBL.out; have := HL.out; have := HP.out; (try simp only [List.length_append, List.length_cons, List.length_nil]); omega)).mono ?_
                      rintro e W2 ⟨rfl, hE2⟩
                      have HE12 := Lib.hid hE2
                      clear hE2 HE11
                      have HR := Lib.hid (EscRel.wrote (x := [92, 116]) 1 (by omega) hst hlt HQ.out HBL.out (by simp) (by have := HE12.out; rw [HPZ.out]; simpa using this) (by rw [esc_ascii hlt HC.out, escA_t _ HS.out HF.out]))
                      clear HE12 HQ HBL HP
                      go_wp2
                      go_roundw
                      case rel => exact ⟨_, _, Nat.le_refl _, hlt, by go_num, by go_num, HR.out⟩
                      case measure => simp [intOf]; omega
                  · skip
                    have HF := Lib.hid (And.intro h92 (And.intro h34 (And.intro h10 (And.intro h13 h9))))
                    have d0 : ((s[i].toNat : Int) == 92) = false := beq_eq_false_iff_ne.2 (by omega)
                    have d1 : ((s[i].toNat : Int) == 34) = false := beq_eq_false_iff_ne.2 (by omega)
                    have d2 : ((s[i].toNat : Int) == 10) = false := beq_eq_false_iff_ne.2 (by omega)
                    have d3 : ((s[i].toNat : Int) == 13) = false := beq_eq_false_iff_ne.2 (by omega)
                    have d4 : ((s[i].toNat : Int) == 9) = false := beq_eq_false_iff_ne.2 (by omega)
                    clear h92 h34 h10 h13 h9
                    by_cases hp : st < i
                    · have HX := hp
                      go_wp2_with fail
                      refine (str_cut HE.out s st i hst hi (by have := HBL.out; have := HL.out; omega)).mono ?_
                      rintro e W1 ⟨rfl, hE1⟩
                      have HE11 := Lib.hid hE1
                      clear hE1 HE
                      go_wp2_with fail
                      refine (char_any HE11.out 92 (by have := HBL.out; have := HL.out; have := HP.out; (try simp only [List.length_append, List.length_cons, List.length_nil]); omega)).mono ?_
                      rintro e W2 ⟨rfl, hE2⟩
                      have HE12 := Lib.hid hE2
                      clear hE2 HE11
                      go_wp2_with fail
                      refine (str_any HE12.out ⟨#[117, 48, 48]⟩ (by have := HBL.out; have := HL.out; have := HP.out; (try simp only [List.length_append, List.length_cons, List.length_nil]); show _ + 3 ≤ _; omega)).mono ?_
                      rintro e W3 ⟨rfl, hE3⟩
                      have HE13 := Lib.hid hE3
                      clear hE3 HE12
                      go_wp2_with fail
                      refine (char_any HE13.out _ (by have := HBL.out; have := HL.out; have := HP.out; (try simp only [List.length_append, List.length_cons, List.length_nil]); omega)).mono ?_
                      rintro e W4 ⟨rfl, hE4⟩
                      have HE14 := Lib.hid hE4
                      clear hE4 HE13
                      go_wp2_with fail
                      refine (char_any HE14.out _ (by have := HBL.out; have := HL.out; have := HP.out; (try simp only [List.length_append, List.length_cons, List.length_nil]); omega)).mono ?_
                      rintro e W5 ⟨rfl, hE5⟩
                      have HE15 := Lib.hid hE5
                      clear hE5 HE14
                      have HR := Lib.hid (EscRel.wrote (x := [92, 117, 48, 48, hexd (s[i].toNat / 16), hexd (s[i].toNat % 16)]) 1 (by omega) hst hlt HQ.out HBL.out (by simp) (by have := HE15.out; rw [hex_get, hex_get] at this; simpa using this) (by rw [esc_ascii hlt HC.out, escA_x _ HS.out HF.out]))
                      clear HE15 HQ HBL HP
                      go_wp2
                      go_roundw
                      case rel => exact ⟨_, _, Nat.le_refl _, hlt, by go_num, by go_num, HR.out⟩
                      case measure => simp [intOf]; omega
                    · have HPZ := Lib.hid (show pend s st i = [] by (obtain rfl : st = i := by omega); exact pend_self s st)
                      go_wp2_with fail
                      refine (char_any HE.out 92 (by have := HBL.out; have := HL.out; have := HP.out; (try simp only [List.length_append, List.length_cons, List.length_nil]); omega)).mono ?_
                      rintro e W1 ⟨rfl, hE1⟩
                      have HE11 := Lib.hid hE1
                      clear hE1 HE
                      go_wp2_with fail
                      refine (str_any HE11.out ⟨#[117, 48, 48]⟩ (by have := HBL.out; have := HL.out; have := HP.out; (try simp only [List.length_append, List.length_cons, List.length_nil]); show _ + 3 ≤ _; omega)).mono ?_
                      rintro e W2 ⟨rfl, hE2⟩
                      have HE12 := Lib.hid hE2
                      clear hE2 HE11
                      go_wp2_with fail
                      refine (char_any HE12.out _ (by have := HBL.out; have := HL.out; have := HP.out; (try simp only [List.length_append, List.length_cons, List.length_nil]); omega)).mono ?_
                      rintro e W3 ⟨rfl, hE3⟩
                      have HE13 := Lib.hid hE3
                      clear hE3 HE12
                      go_wp2_with fail
                      refine (char_any HE13.out _ (by have := HBL.out; have := HL.out; have := HP.out; (try simp only [List.length_append, List.length_cons, List.length_nil]); omega)).mono ?_
                      rintro e W4 ⟨rfl, hE4⟩
                      have HE14 := Lib.hid hE4
                      clear hE4 HE13
                      have HR := Lib.hid (EscRel.wrote (x := [92, 117, 48, 48, hexd (s[i].toNat / 16), hexd (s[i].toNat % 16)]) 1 (by omega) hst hlt HQ.out HBL.out (by simp) (by have := HE14.out; rw [hex_get, hex_get] at this; rw [HPZ.out]; simpa using this) (by rw [esc_ascii hlt HC.out, escA_x _ HS.out HF.out]))
                      clear HE14 HQ HBL HP
                      go_wp2
                      go_roundw
                      case rel => exact ⟨_, _, Nat.le_refl _, hlt, by go_num, by go_num, HR.out⟩
                      case measure => simp [intOf]; omega
      · obtain ⟨⟨r, k⟩, hd⟩ : ∃ p, Lib.decodeL (s.data.toList.drop i) = p := ⟨_, rfl⟩
        have HC := Lib.hid hc
        have hge : 128 ≤ s[i].toNat := by omega
        have HP := Lib.hid (pend_length s hst hi)
        have hk1 : 1 ≤ k := by have := decodeL_ge1 (s.data.toList.drop i); rw [hd] at this; exact this
        have hk4 : k ≤ 4 := by have := decodeL_le4 (s.data.toList.drop i); rw [hd] at this; exact this
        have hik : i + k ≤ s.size := by
          have h1 : s.data.toList.drop i = s[i] :: s.data.toList.drop (i + 1) := drop_cons s i hlt
          have := decodeL_le s[i] (s.data.toList.drop (i + 1))
          rw [← h1, hd, List.length_drop, Array.length_toList] at this
          have e : s.data.size = s.size := rfl
          omega
        have hr : r ≤ 1114111 := by have := decodeL_le_max (s.data.toList.drop i); rw [hd] at this; exact this
        have HD := Lib.hid hd
        have HK := Lib.hid (And.intro hk1 hik)
        have k82 := Lib.hid (decode_call wr HTr.out s i r k hlt hd)
        clear hd hc
        by_cases hbad : r = 65533 ∧ k = 1
        · have HF := Lib.hid hbad
          have d0 : ((r : Int) == 65533) = true := beq_iff_eq.2 (by omega)
          have d1 : ((k : Int) == 1) = true := beq_iff_eq.2 (by omega)
          clear hbad
          by_cases hp : st < i
          · have HX := hp
            go_wp2_with (go_at_call 82; go_must (refine k82.out.mono ?_; rintro e W0 ⟨rfl, hb0⟩; have HE := Lib.hid (HE.out.below hb0); clear hb0))
            go_wp2_with fail
            refine (str_cut HE.out s st i hst hi (by have := HBL.out; have := HL.out; omega)).mono ?_
            rintro e W1 ⟨rfl, hE1⟩
            have HE11 := Lib.hid hE1
            clear hE1 HE
            go_wp2_with fail
            refine (str_any HE11.out ⟨#[239, 191, 189]⟩ (by have := HBL.out; have := HL.out; have := HP.out; (try simp only [List.length_append, List.length_cons, List.length_nil]); show _ + 3 ≤ _; omega)).mono ?_
            rintro e W2 ⟨rfl, hE2⟩
            have HE12 := Lib.hid hE2
            clear hE2 HE11
            have HR := Lib.hid (EscRel.wrote (x := [239, 191, 189]) k HK.out.1 hst HK.out.2 HQ.out HBL.out (by simp) (by have := HE12.out; simpa using this) (by rw [esc_rune hlt HC.out, HD.out]; rw [show escR (s.data.toList.drop i) r k = [239, 191, 189] from if_pos HF.out]))
            clear HE12 HQ HBL HP
            go_wp2
            go_roundw
            case rel => exact ⟨_, _, Nat.le_refl _, HK.out.2, by go_num, by go_num, HR.out⟩
            case measure => simp [intOf]; omega
          · have HPZ := Lib.hid (show pend s st i = [] by (obtain rfl : st = i := by omega); exact pend_self s st)
            go_wp2_with (go_at_call 82; go_must (refine k82.out.mono ?_; rintro e W0 ⟨rfl, hb0⟩; have HE := Lib.hid (HE.out.below hb0); clear hb0))
            go_wp2_with fail
            refine (str_any HE.out ⟨#[239, 191, 189]⟩ (by have := HBL.out; have := HL.out; have := HP.out; (try simp only [List.length_append, List.length_cons, List.length_nil]); show _ + 3 ≤ _; omega)).mono ?_
            rintro e W1 ⟨rfl, hE1⟩
            have HE11 := Lib.hid hE1
            clear hE1 HE
            have HR := Lib.hid (EscRel.wrote (x := [239, 191, 189]) k HK.out.1 hst HK.out.2 HQ.out HBL.out (by simp) (by have := HE11.out; rw [HPZ.out]; simpa using this) (by rw [esc_rune hlt HC.out, HD.out]; rw [show escR (s.data.toList.drop i) r k = [239, 191, 189] from if_pos HF.out]))
            clear HE11 HQ HBL HP
            go_wp2
            go_roundw
            case rel => exact ⟨_, _, Nat.le_refl _, HK.out.2, by go_num, by go_num, HR.out⟩
            case measure => simp [intOf]; omega
        · have HF := Lib.hid hbad
          by_cases h65 : r = 65533
          · have d0 : ((r : Int) == 65533) = true := beq_iff_eq.2 (by omega)
            have d1 : ((k : Int) == 1) = false := beq_eq_false_iff_ne.2 (by omega)
            have d3 : ((r : Int) == 8232) = false := beq_eq_false_iff_ne.2 (by omega)
            have d4 : ((r : Int) == 8233) = false := beq_eq_false_iff_ne.2 (by omega)
            have HG := Lib.hid (show ¬ r = 8232 ∧ ¬ r = 8233 by omega)
            clear hbad h65
            have HR := fun (W : World) (hE : EscSt w B w.heap.size W bl) => Lib.hid (EscRel.kept k hst HK.out.2 HQ.out HBL.out hE (by rw [esc_rune hlt HC.out, HD.out]; rw [show escR (s.data.toList.drop i) r k = (s.data.toList.drop i).take k from (if_neg HF.out).trans (if_neg (by have := HG.out; omega))]))
            clear HQ HBL HP
            go_wp2_with (go_at_call 82; go_must (refine k82.out.mono ?_; rintro e W0 ⟨rfl, hb0⟩; have HR' := HR W0 (HE.out.below hb0); clear hb0))
            go_roundw
            case rel => exact ⟨st, i + k, by omega, HK.out.2, by go_num, by go_num, HR'.out⟩
            case measure => simp [intOf]; omega
          · have d0 : ((r : Int) == 65533) = false := beq_eq_false_iff_ne.2 (by omega)
            clear hbad h65
            by_cases h8 : r = 8232
            · have HG := Lib.hid h8
              have d3 : ((r : Int) == 8232) = true := beq_iff_eq.2 (by omega)
              have h15 : bits BinOp.and IntKind.i32 (r : Int) 15 = 8 := and_8232 r h8
              clear h8
              by_cases hp : st < i
              · have HX := hp
                go_wp2_with (go_at_call 82; go_must (refine k82.out.mono ?_; rintro e W0 ⟨rfl, hb0⟩; have HE := Lib.hid (HE.out.below hb0); clear hb0))
                go_wp2_with fail
                refine (str_cut HE.out s st i hst hi (by have := HBL.out; have := HL.out; omega)).mono ?_
                rintro e W1 ⟨rfl, hE1⟩
                have HE11 := Lib.hid hE1
                clear hE1 HE
                go_wp2_with fail
                refine (str_any HE11.out ⟨#[92, 117, 50, 48, 50]⟩ (by have := HBL.out; have := HL.out; have := HP.out; (try simp only [List.length_append, List.length_cons, List.length_nil]); show _ + 5 ≤ _; omega)).mono ?_
                rintro e W2 ⟨rfl, hE2⟩
                have HE12 := Lib.hid hE2
                clear hE2 HE11
                go_wp2_with fail
                refine (char_any HE12.out 56 (by have := HBL.out; have := HL.out; have := HP.out; (try simp only [List.length_append, List.length_cons, List.length_nil]); omega)).mono ?_
                rintro e W3 ⟨rfl, hE3⟩
                have HE13 := Lib.hid hE3
                clear hE3 HE12
                have HR := Lib.hid (EscRel.wrote (x := [92, 117, 50, 48, 50, 56]) k HK.out.1 hst HK.out.2 HQ.out HBL.out (by simp) (by have := HE13.out; simpa using this) (by rw [esc_rune hlt HC.out, HD.out]; rw [show escR (s.data.toList.drop i) r k = [92, 117, 50, 48, 50, 56] from (if_neg HF.out).trans ((if_pos (.inl HG.out)).trans (by rw [HG.out]; rfl))]))
                clear HE13 HQ HBL HP
                go_wp2
                go_roundw
                case rel => exact ⟨_, _, Nat.le_refl _, HK.out.2, by go_num, by go_num, HR.out⟩
                case measure => simp [intOf]; omega
              · have HPZ := Lib.hid (show pend s st i = [] by (obtain rfl : st = i := by omega); exact pend_self s st)
                go_wp2_with (go_at_call 82; go_must (refine k82.out.mono ?_; rintro e W0 ⟨rfl, hb0⟩; have HE := Lib.hid (HE.out.below hb0); clear hb0))
                go_wp2_with fail
                refine (str_any HE.out ⟨#[92, 117, 50, 48, 50]⟩ (by have := HBL.out; have := HL.out; have := HP.out; (try simp only [List.length_append, List.length_cons, List.length_nil]); show _ + 5 ≤ _; omega)).mono ?_
                rintro e W1 ⟨rfl, hE1⟩
                have HE11 := Lib.hid hE1
                clear hE1 HE
                go_wp2_with fail
                refine (char_any HE11.out 56 (by have := HBL.out; have := HL.out; have := HP.out; (try simp only [List.length_append, List.length_cons, List.length_nil]); omega)).mono ?_
                rintro e W2 ⟨rfl, hE2⟩
                have HE12 := Lib.hid hE2
                clear hE2 HE11
                have HR := Lib.hid (EscRel.wrote (x := [92, 117, 50, 48, 50, 56]) k HK.out.1 hst HK.out.2 HQ.out HBL.out (by simp) (by have := HE12.out; rw [HPZ.out]; simpa using this) (by rw [esc_rune hlt HC.out, HD.out]; rw [show escR (s.data.toList.drop i) r k = [92, 117, 50, 48, 50, 56] from (if_neg HF.out).trans ((if_pos (.inl HG.out)).trans (by rw [HG.out]; rfl))]))
                clear HE12 HQ HBL HP
                go_wp2
                go_roundw
                case rel => exact ⟨_, _, Nat.le_refl _, HK.out.2, by go_num, by go_num, HR.out⟩
                case measure => simp [intOf]; omega
            · skip
              have d3 : ((r : Int) == 8232) = false := beq_eq_false_iff_ne.2 (by omega)
              by_cases h9 : r = 8233
              · have HG := Lib.hid h9
                have d4 : ((r : Int) == 8233) = true := beq_iff_eq.2 (by omega)
                have h15 : bits BinOp.and IntKind.i32 (r : Int) 15 = 9 := and_8233 r h9
                clear h8 h9
                by_cases hp : st < i
                · have HX := hp
                  go_wp2_with (go_at_call 82; go_must (refine k82.out.mono ?_; rintro e W0 ⟨rfl, hb0⟩; have HE := Lib.hid (HE.out.below hb0); clear hb0))
                  go_wp2_with fail
                  refine (str_cut HE.out s st i hst hi (by have := HBL.out; have := HL.out; omega)).mono ?_
                  rintro e W1 ⟨rfl, hE1⟩
                  have HE11 := Lib.hid hE1
                  clear hE1 HE
                  go_wp2_with fail
                  refine (str_any HE11.out ⟨#[92, 117, 50, 48, 50]⟩ (by have := HBL.out; have := HL.out; have := HP.out; (try simp only [List.length_append, List.length_cons, List.length_nil]); show _ + 5 ≤ _; omega)).mono ?_
                  rintro e W2 ⟨rfl, hE2⟩
                  have HE12 := Lib.hid hE2
                  clear hE2 HE11
                  go_wp2_with fail
                  refine (char_any HE12.out 57 (by have := HBL.out; have := HL.out; have := HP.out; (try simp only [List.length_append, List.length_cons, List.length_nil]); omega)).mono ?_
                  rintro e W3 ⟨rfl, hE3⟩
                  have HE13 := Lib.hid hE3
                  clear hE3 HE12
                  have HR := Lib.hid (EscRel.wrote (x := [92, 117, 50, 48, 50, 57]) k HK.out.1 hst HK.out.2 HQ.out HBL.out (by simp) (by have := HE13.out; simpa using this) (by rw [esc_rune hlt HC.out, HD.out]; rw [show escR (s.data.toList.drop i) r k = [92, 117, 50, 48, 50, 57] from (if_neg HF.out).trans ((if_pos (.inr HG.out)).trans (by rw [HG.out]; rfl))]))
                  clear HE13 HQ HBL HP
                  go_wp2
                  go_roundw
                  case rel => exact ⟨_, _, Nat.le_refl _, HK.out.2, by go_num, by go_num, HR.out⟩
                  case measure => simp [intOf]; omega
                · have HPZ := Lib.hid (show pend s st i = [] by (obtain rfl : st = i := by omega); exact pend_self s st)
                  go_wp2_with (go_at_call 82; go_must (refine k82.out.mono ?_; rintro e W0 ⟨rfl, hb0⟩; have HE := Lib.hid (HE.out.below hb0); clear hb0))
                  go_wp2_with fail
                  refine (str_any HE.out ⟨#[92, 117, 50, 48, 50]⟩ (by have := HBL.out; have := HL.out; have := HP.out; (try simp only [List.length_append, List.length_cons, List.length_nil]); show _ + 5 ≤ _; omega)).mono ?_
                  rintro e W1 ⟨rfl, hE1⟩
                  have HE11 := Lib.hid hE1
                  clear hE1 HE
                  go_wp2_with fail
                  refine (char_any HE11.out 57 (by have := HBL.out; have := HL.out; have := HP.out; (try simp only [List.length_append, List.length_cons, List.length_nil]); omega)).mono ?_
                  rintro e W2 ⟨rfl, hE2⟩
                  have HE12 := Lib.hid hE2
                  clear hE2 HE11
                  have HR := Lib.hid (EscRel.wrote (x := [92, 117, 50, 48, 50, 57]) k HK.out.1 hst HK.out.2 HQ.out HBL.out (by simp) (by have := HE12.out; rw [HPZ.out]; simpa using this) (by rw [esc_rune hlt HC.out, HD.out]; rw [show escR (s.data.toList.drop i) r k = [92, 117, 50, 48, 50, 57] from (if_neg HF.out).trans ((if_pos (.inr HG.out)).trans (by rw [HG.out]; rfl))]))
                  clear HE12 HQ HBL HP
                  go_wp2
                  go_roundw
                  case rel => exact ⟨_, _, Nat.le_refl _, HK.out.2, by go_num, by go_num, HR.out⟩
                  case measure => simp [intOf]; omega
              · have d4 : ((r : Int) == 8233) = false := beq_eq_false_iff_ne.2 (by omega)
                have HG := Lib.hid (And.intro h8 h9)
                clear h8 h9
                have HR := fun (W : World) (hE : EscSt w B w.heap.size W bl) => Lib.hid (EscRel.kept k hst HK.out.2 HQ.out HBL.out hE (by rw [esc_rune hlt HC.out, HD.out]; rw [show escR (s.data.toList.drop i) r k = (s.data.toList.drop i).take k from (if_neg HF.out).trans (if_neg (by have := HG.out; omega))]))
                clear HQ HBL HP
                go_wp2_with (go_at_call 82; go_must (refine k82.out.mono ?_; rintro e W0 ⟨rfl, hb0⟩; have HR' := HR W0 (HE.out.below hb0); clear hb0))
                go_roundw
                case rel => exact ⟨st, i + k, by omega, HK.out.2, by go_num, by go_num, HR'.out⟩
                case measure => simp [intOf]; omega
    · obtain rfl : i = s.size := by omega
      have HP := Lib.hid (pend_length s hst hi)
      have HEQ := Lib.hid (show bl ++ pend s st s.size = l ++ escL s.data.toList by
        have := HQ.out
        rw [List.drop_eq_nil_of_le (by rw [Array.length_toList]; exact Nat.le_refl _), escL_nil, List.append_nil] at this
        exact this)
      by_cases hp : st < s.size
      · have k81 := Lib.hid (str_cut HE.out s st s.size hst (Nat.le_refl _) (by have := HBL.out; have := HL.out; omega))
        clear HQ HBL HE
        go_wp2_with fail
        refine k81.out.mono ?_
        rintro e W1 ⟨rfl, hE1⟩
        obtain ⟨⟨A1, n1, c1, hb1, hf1⟩, hfr, _, _⟩ := hE1
        have e1 : W1.cell? ⟨w.heap.size, 0, none⟩ = some (.slice A1 n1 c1) := hb1.cell 0
        rw [HEQ.out] at hf1
        have HF1 := Lib.hid hf1
        have HFR := Lib.hid hfr
        clear hb1 hf1 hfr k81
        go_wp2
        go_ret
        exact ⟨A1, n1, c1, rfl, HF1.out, HFR.out⟩
      · have HPZ : pend s st s.size = [] := by
          obtain rfl : st = s.size := by omega
          exact pend_self s s.size
        have HEQ2 := Lib.hid (show bl = l ++ escL s.data.toList by have := HEQ.out; rwa [HPZ, List.append_nil] at this)
        obtain ⟨⟨A1, n1, c1, hb1, hf1⟩, hfr, _, _⟩ := HE.out
        have e1 : wr.cell? ⟨w.heap.size, 0, none⟩ = some (.slice A1 n1 c1) := hb1.cell 0
        rw [HEQ2.out] at hf1
        have HF1 := Lib.hid hf1
        have HFR := Lib.hid hfr
        clear hb1 hf1 hfr HQ HBL HE HPZ
        go_wp2
        go_ret
        exact ⟨A1, n1, c1, rfl, HF1.out, HFR.out⟩
end Go.Proofs.YtcllhgajdcemiaaGreatDoor.jb
