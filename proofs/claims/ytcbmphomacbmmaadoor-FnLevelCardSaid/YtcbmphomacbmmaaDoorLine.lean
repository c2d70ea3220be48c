/-
  handle: the line of a record with a level from -4 to 8 and a short message that needs no quoting; line, TextLine, JSONLine on a log without steps and attributes. Conditions: safeSet as its initialiser lays it.
-/
import Derived.Test.YtcbmphomacbmmaaDoorHandle
namespace Go.Proofs.YtcbmphomacbmmaaDoor
open Go.RowKit

theorem conv_own {w : World} {B : Nat} {v : Value} {l : List UInt8} (hown : w.ownsRow B 5 1 v l.length (bytesOf l)) (hl : l ≠ []) : (convert 44 9 v).run Tryd.prog w = .ok (.string ⟨l.toArray⟩) w := by
  have hlen : 0 < l.length := List.length_pos_iff.2 hl
  have hc := fun g => World.ownsRow.cells (g := g) hown
  rcases hown.2 with ⟨_, h0⟩ | ⟨g, cap, cur, rfl, _⟩
  · omega
  · have hb : Lib.Bytes w g 0 ⟨l.toArray⟩ := by
      intro i hi
      have hi' : i < l.length := by simpa [ByteArray.size] using hi
      have := hc g rfl i (.int .u8 l[i].toNat) (by simp [bytesOf, List.getElem?_map, List.getElem?_eq_getElem hi'])
      have e : (⟨l.toArray⟩ : ByteArray)[i] = l[i] := by show l.toArray[i] = l[i]; simp
      rw [e]
      simpa [Addr.add_lit] using this
    have h := Lib.run_convert_whole (P := Tryd.prog) w 44 5 9 Tryd.underlying44 Tryd.underlying5 Tryd.underlying9 g 0 ⟨l.toArray⟩ hb cap
    simpa [ByteArray.size] using h

def keyLevel : ByteArray := ⟨#[108, 101, 118, 101, 108]⟩
def keyMsg : ByteArray := ⟨#[109, 115, 103]⟩
theorem keyLevel_ok : okS keyLevel := okS_of _ (by decide) (by decide) (by decide)
theorem keyMsg_ok : okS keyMsg := okS_of _ (by decide) (by decide) (by decide)
/-- the line. -/
def lineOf (js : Bool) (n : Int) (msg : ByteArray) : List UInt8 :=
  (((((if js then [123] else []) ++ keyOf js ⟨#[]⟩ keyLevel.data.toList) ++ strOf js (lvl n).data.toList) ++ keyOf js (sepOf js) keyMsg.data.toList) ++ strOf js msg.data.toList ++ (if js then [125] else [])) ++ [10]

section
variable {w w' : World} {B R bh bs bb bp : Nat} {js fb : Bool} {sep sep' : ByteArray} {l l' : List UInt8} {msg : ByteArray} {n : Int}

/-- the state, the record in its box, the table: what handle carries from call to call. -/
structure Hst (w : World) (B R : Nat) (js : Bool) (bh bs bb bp : Nat) (msg : ByteArray) (n : Int) (sep : ByteArray) (l : List UInt8) : Prop where
  st : St w B js bh bs bb bp true sep l
  r0 : w.cell? ⟨R, 0, none⟩ = some (.string msg)
  r1 : w.cell? ⟨R, 1, none⟩ = some (.int .i64 n)
  r2 : w.cell? ⟨R, 2, none⟩ = some (.slice none 0 0)
  hR : R < B
  safe : Safe w

theorem Hst.next (h : Hst w B R js bh bs bb bp msg n sep l) (hs : St w' B js bh bs bb bp true sep' l') (hb : Below B w w') : Hst w' B R js bh bs bb bp msg n sep' l' :=
  ⟨hs, (hb.cell (p := ⟨R, 0, none⟩) h.hR).trans h.r0, (hb.cell (p := ⟨R, 1, none⟩) h.hR).trans h.r1, (hb.cell (p := ⟨R, 2, none⟩) h.hR).trans h.r2, h.hR, h.safe.below hb (Nat.lt_of_le_of_lt (Nat.zero_le _) h.hR)⟩
theorem Hst.B0 (h : Hst w B R js bh bs bb bp msg n sep l) : 0 < B := Nat.lt_of_le_of_lt (Nat.zero_le _) h.hR

theorem St.setGroups (h : St w B js bh bs bb bp fb sep l) : St (w.setCell ⟨bs, 5, none⟩ (.pointer none)) B js bh bs bb bp fb sep l := by
  obtain ⟨v, hv, hown⟩ := h.b
  refine ⟨?_, h.h.far (p := ⟨bs, 5, none⟩) (h.h.ne_ h.s (by decide)) _, h.p.far (p := ⟨bs, 5, none⟩) (h.p.ne_ h.s (by decide)) _, ⟨v, hv.far (p := ⟨bs, 5, none⟩) (hv.ne_ h.s (by decide)) _, own_set hown (own_blk_ne hown h.s (by decide)) _⟩, h.ne, h.los, h.lob, by simpa [World.setCell] using h.hz⟩
  have := h.s.set_ 5 (.pointer none)
  simpa using this
theorem Hst.setGroups (h : Hst w B R js bh bs bb bp msg n sep l) : Hst (w.setCell ⟨bs, 5, none⟩ (.pointer none)) B R js bh bs bb bp msg n sep l :=
  h.next h.st.setGroups ((Below.refl B w).setCell (p := ⟨bs, 5, none⟩) h.st.los _)

/-- the loads, for the walk. -/
theorem Hst.cells (h : Hst w B R js bh bs bb bp msg n sep l) :
    w.cell? ⟨bs, 1, none⟩ = some (.pointer (some ⟨bb, 0, none⟩)) ∧ w.cell? ⟨bs, 5, none⟩ = some (.pointer none) ∧ w.frozen? ⟨bs, 5, none⟩ = false ∧ w.cell? ⟨bh, 0, none⟩ = some (.bool js) ∧
    w.cell? ⟨R, 0, none⟩ = some (.string msg) ∧ w.cell? ⟨R, 1, none⟩ = some (.int .i64 n) ∧ w.cell? ⟨R, 2, none⟩ = some (.slice none 0 0) :=
  ⟨h.st.s.cell 1, h.st.s.cell 5, h.st.s.frozen 5, h.st.h.cell 0, h.r0, h.r1, h.r2⟩

theorem keyOf_length (js : Bool) (sep s : ByteArray) (h1 : sep.size ≤ 1) (h2 : s.size ≤ 1000) : (keyOf js sep s.data.toList).length ≤ 1005 := by
  have e1 : sep.data.toList.length = sep.size := Array.length_toList
  have e2 : s.data.toList.length = s.size := Array.length_toList
  have := strOf_length js s.data.toList
  unfold keyOf
  rw [List.length_append, List.length_append, e1]
  simp
  omega
theorem sepOf_size (js : Bool) : (sepOf js).size ≤ 1 := by cases js <;> decide

/-- the state as handle makes it. -/
theorem Hst.init {w2 : World} (hh : Blk w bh 47 #[.bool js, .slice none 0 0, .string ⟨#[]⟩, .slice none 0 0, .int .i64 0]) (hs : Safe w) (hp : Blk w2 bp 44 #[.slice none 0 0]) (hbp : w.heap.size + 2 ≤ bp)
    (hb2 : Below (w.heap.size + 2) ((w.alloc (.cells #[.string msg, .int .i64 n, .slice none 0 0] 54)).alloc (.cells #[.slice none 0 0] 44)) w2) :
    Hst (w2.alloc (.cells #[.pointer (some ⟨bh, 0, none⟩), .pointer (some ⟨w.heap.size + 1, 0, none⟩), .bool true, .string ⟨#[]⟩, .pointer (some ⟨bp, 0, none⟩), .pointer none] 66))
      (w.heap.size + 1) w.heap.size js bh w2.heap.size (w.heap.size + 1) bp msg n ⟨#[]⟩ [] := by
  have hlt := hh.lt
  have hz : w.heap.size + 2 ≤ w2.heap.size := by have := hb2.size; simp at this; omega
  have hbb : Blk w2 (w.heap.size + 1) 44 #[.slice none 0 0] := by
    have h0 := Blk.new (w.alloc (.cells #[.string msg, .int .i64 n, .slice none 0 0] 54)) 44 #[.slice none 0 0]
    have h1 : Blk ((w.alloc (.cells #[.string msg, .int .i64 n, .slice none 0 0] 54)).alloc (.cells #[.slice none 0 0] 44)) (w.heap.size + 1) 44 #[.slice none 0 0] := by simpa using h0
    exact h1.below hb2 (by omega)
  have hR : Blk w2 w.heap.size 54 #[.string msg, .int .i64 n, .slice none 0 0] := ((Blk.new w 54 _).alloc _).below hb2 (by omega)
  have hh2 : Blk w2 bh 47 #[.bool js, .slice none 0 0, .string ⟨#[]⟩, .slice none 0 0, .int .i64 0] := ((hh.alloc _).alloc _).below hb2 (by omega)
  have hw2 : Below w.heap.size w w2 := (((Below.refl _ w).alloc (Nat.le_refl _) _).alloc (by simp) _).trans (hb2.mono (by omega))
  refine ⟨⟨Blk.new _ _ _, hh2.alloc _, hp.alloc _, ⟨.slice none 0 0, hbb.alloc _, World.ownsRow_nil _ _ _ _⟩, by omega, by omega, Nat.le_refl _, by simp; omega⟩,
    (hR.alloc _).cell 0, (hR.alloc _).cell 1, (hR.alloc _).cell 2, by omega, ?_⟩
  have hs2 : Safe w2 := hs.below hw2 (by omega)
  exact hs2.below (B := w2.heap.size) ((Below.refl _ _).alloc (Nat.le_refl _) _) (by omega)

set_option maxRecDepth 100000 in
set_option maxHeartbeats 4000000 in
theorem handle_ok (w : World) (bh : Nat) (js : Bool) (n : Int) (msg : ByteArray) (hh : Blk w bh 47 #[.bool js, .slice none 0 0, .string ⟨#[]⟩, .slice none 0 0, .int .i64 0]) (hn0 : -4 ≤ n) (hn1 : n ≤ 8) (hm : okS msg) (hs : Safe w) :
    Calls Tryd.prog 18 #[.pointer (some ⟨bh, 0, none⟩), .agg #[.string msg, .int .i64 n, .slice none 0 0]] w fun e w' => e = .returned (.string ⟨(lineOf js n msg).toArray⟩) ∧ Below w.heap.size w w' := by
  have c0 : w.cell? ⟨bh, 0, none⟩ = some (.bool js) := hh.cell 0
  have hlt := hh.lt
  have HH := Lib.hid hh
  have HS := Lib.hid hs
  have HM := Lib.hid hm
  clear hh
  cases js
  · have KL := Lib.hid (And.intro (keyOf_length false ⟨#[]⟩ keyLevel (by decide) (by decide)) (And.intro (keyOf_length false (sepOf false) keyMsg (sepOf_size _) (by decide)) (And.intro (strOf_length false (lvl n).data.toList) (And.intro (okS_size (lvl_ok n hn0 hn1)) (And.intro (strOf_length false msg.data.toList) (okS_size hm))))))
    go_enter_defers Tryd.func18, Tryd.ntmps18
    go_wp2_with (first | (go_at_call 32; go_must (refine (newBuffer_any _).mono ?_; rintro e w1 ⟨rfl, rfl⟩)) | (go_at_call 21; go_must (refine (newState_any _ _ _ _ _).mono ?_; rintro e w2 ⟨bp, hbp, rfl, hp, hb2⟩; have hb3 : Below (w.heap.size + 2) ((w.alloc (.cells #[.string msg, .int .i64 n, .slice none 0 0] 54)).alloc (.cells #[.slice none 0 0] 44)) w2 := (by simpa using hb2); have hbp' : w.heap.size + 2 ≤ bp := (by simpa using hbp); have H3 := Lib.hid (Hst.init HH.out HS.out hp hbp' hb3); have hz : w.heap.size + 2 ≤ w2.heap.size := (by have := hb3.size; simp at this; omega); have hlt2 : bh < w2.heap.size := (by omega); have hlt3 : w.heap.size < w2.heap.size := (by omega); have c2 : w2.cell? ⟨bh, 0, none⟩ = some (.bool false) := (by have := H3.out.st.h.cell 0; rwa [World.cell?_alloc_lt _ _ _ hlt2] at this); have r1 : w2.cell? ⟨w.heap.size, 1, none⟩ = some (.int .i64 n) := (by have := H3.out.r1; rwa [World.cell?_alloc_lt _ _ _ hlt3] at this); have HB := Lib.hid ((((Below.refl w.heap.size w).alloc (Nat.le_refl _) _).alloc (by simp) _).trans (hb3.mono (by omega))); clear hbp hp hb2 hb3 hbp' c0)))
    have H0 := H3
    have HB0 := Lib.hid (HB.out.trans ((Below.refl w.heap.size _).alloc (by omega) (.cells #[.pointer (some ⟨bh, 0, none⟩), .pointer (some ⟨w.heap.size + 1, 0, none⟩), .bool true, .string ⟨#[]⟩, .pointer (some ⟨bp, 0, none⟩), .pointer none] 66)))
    clear H3 c2 r1 HB hz hlt2 hm hs
    refine (appendKey_ok H0.out.st (by decide) keyLevel keyLevel_ok H0.out.safe H0.out.B0 (by have := KL.out; (try simp only [List.length_append]); (try simp only [List.length_cons]); (try simp only [List.length_nil]); omega)).mono ?_
    rintro e W1 ⟨rfl, hst, hb⟩
    have h := H0.out.next hst hb
    have H1 := Lib.hid h
    have HB1 := Lib.hid (HB0.out.trans (hb.mono (Nat.le_succ _)))
    obtain ⟨c1, c5, f5, d0, r0, r1, r2⟩ := h.cells
    clear h hst hb H0 HB0
    go_wp2_with (go_at_call 36; go_must (refine (string_any n hn0 hn1 _).mono ?_; rintro e w' ⟨rfl, rfl⟩))
    refine (appendString_ok H1.out.st (lvl n) (lvl_ok n hn0 hn1) H1.out.safe H1.out.B0 (by have := KL.out; (try simp only [List.length_append]); (try simp only [List.length_cons]); (try simp only [List.length_nil]); omega)).mono ?_
    rintro e W2 ⟨rfl, hst, hb⟩
    have h := H1.out.next hst hb
    have H2 := Lib.hid h
    have HB2 := Lib.hid (HB1.out.trans (hb.mono (Nat.le_succ _)))
    obtain ⟨c1, c5, f5, d0, r0, r1, r2⟩ := h.cells
    clear h hst hb H1 HB1
    go_wp2_with fail
    refine (appendKey_ok H2.out.st (sepOf_size _) keyMsg keyMsg_ok H2.out.safe H2.out.B0 (by have := KL.out; (try simp only [List.length_append]); (try simp only [List.length_cons]); (try simp only [List.length_nil]); omega)).mono ?_
    rintro e W3 ⟨rfl, hst, hb⟩
    have h := H2.out.next hst hb
    have H3 := Lib.hid h
    have HB3 := Lib.hid (HB2.out.trans (hb.mono (Nat.le_succ _)))
    obtain ⟨c1, c5, f5, d0, r0, r1, r2⟩ := h.cells
    clear h hst hb H2 HB2
    go_wp2_with fail
    refine (appendString_ok H3.out.st msg HM.out H3.out.safe H3.out.B0 (by have := KL.out; (try simp only [List.length_append]); (try simp only [List.length_cons]); (try simp only [List.length_nil]); omega)).mono ?_
    rintro e W4 ⟨rfl, hst, hb⟩
    have h := H3.out.next hst hb
    have H4 := Lib.hid h
    have HB4 := Lib.hid (HB3.out.trans (hb.mono (Nat.le_succ _)))
    obtain ⟨c1, c5, f5, d0, r0, r1, r2⟩ := h.cells
    clear h hst hb H3 HB3
    have HG := Lib.hid H4.out.setGroups
    have HBG := Lib.hid (HB4.out.setCell (p := ⟨w2.heap.size, 5, none⟩) (Nat.le_of_lt hlt3) (.pointer none))
    go_wp2_with fail
    refine (nonBuiltIns_none HG.out.st (by have := KL.out; (try simp only [List.length_append]); (try simp only [List.length_cons]); (try simp only [List.length_nil]); omega) msg n).mono ?_
    rintro e W5 ⟨rfl, hst, hb⟩
    have h := HG.out.next hst hb
    have H5 := Lib.hid h
    have HB5 := Lib.hid (HBG.out.trans (hb.mono (Nat.le_succ _)))
    obtain ⟨c1, c5, f5, d0, r0, r1, r2⟩ := h.cells
    clear h hst hb H4 HB4 HG HBG
    go_wp2_with fail
    refine (writeByte_st H5.out.st 10 (by have := KL.out; (try simp only [List.length_append]); (try simp only [if_true]); (try simp only [Bool.false_eq_true, if_false]); (try simp only [List.length_cons]); (try simp only [List.length_nil]); omega)).mono ?_
    rintro e W6 ⟨rfl, hst, hb⟩
    have h := H5.out.next hst hb
    have H6 := Lib.hid h
    have HB6 := Lib.hid (HB5.out.trans (hb.mono (Nat.le_succ _)))
    obtain ⟨c1, c5, f5, d0, r0, r1, r2⟩ := h.cells
    clear h hst hb H5 HB5
    obtain ⟨v, hv, hown⟩ := H6.out.st.b
    have e1 : W6.cell? ⟨w.heap.size + 1, 0, none⟩ = some v := hv.cell 0
    have hcv : (convert 44 9 v).run Tryd.prog W6 = .ok (.string ⟨(lineOf false n msg).toArray⟩) W6 := conv_own (l := lineOf false n msg) hown (by simp [lineOf])
    have HF := Lib.hid (free_deferred H6.out.st .returning)
    clear hv hown H6
    go_wp2_with fail
    refine leaves_cons (f := 22) (args := #[.pointer (some ⟨w2.heap.size, 0, none⟩)]) (by simp) (by simp [go_sem]) ?_
    refine HF.out.mono ?_
    rintro e u' w'' ⟨rfl, rfl, rfl⟩
    exact ⟨_, results_tmp rfl _ _ _, rfl, HB6.out⟩
  · have KL := Lib.hid (And.intro (keyOf_length true ⟨#[]⟩ keyLevel (by decide) (by decide)) (And.intro (keyOf_length true (sepOf true) keyMsg (sepOf_size _) (by decide)) (And.intro (strOf_length true (lvl n).data.toList) (And.intro (okS_size (lvl_ok n hn0 hn1)) (And.intro (strOf_length true msg.data.toList) (okS_size hm))))))
    go_enter_defers Tryd.func18, Tryd.ntmps18
    go_wp2_with (first | (go_at_call 32; go_must (refine (newBuffer_any _).mono ?_; rintro e w1 ⟨rfl, rfl⟩)) | (go_at_call 21; go_must (refine (newState_any _ _ _ _ _).mono ?_; rintro e w2 ⟨bp, hbp, rfl, hp, hb2⟩; have hb3 : Below (w.heap.size + 2) ((w.alloc (.cells #[.string msg, .int .i64 n, .slice none 0 0] 54)).alloc (.cells #[.slice none 0 0] 44)) w2 := (by simpa using hb2); have hbp' : w.heap.size + 2 ≤ bp := (by simpa using hbp); have H3 := Lib.hid (Hst.init HH.out HS.out hp hbp' hb3); have hz : w.heap.size + 2 ≤ w2.heap.size := (by have := hb3.size; simp at this; omega); have hlt2 : bh < w2.heap.size := (by omega); have hlt3 : w.heap.size < w2.heap.size := (by omega); have c2 : w2.cell? ⟨bh, 0, none⟩ = some (.bool true) := (by have := H3.out.st.h.cell 0; rwa [World.cell?_alloc_lt _ _ _ hlt2] at this); have r1 : w2.cell? ⟨w.heap.size, 1, none⟩ = some (.int .i64 n) := (by have := H3.out.r1; rwa [World.cell?_alloc_lt _ _ _ hlt3] at this); have HB := Lib.hid ((((Below.refl w.heap.size w).alloc (Nat.le_refl _) _).alloc (by simp) _).trans (hb3.mono (by omega))); clear hbp hp hb2 hb3 hbp' c0)))
    have H0 := H3
    have HB0 := Lib.hid (HB.out.trans ((Below.refl w.heap.size _).alloc (by omega) (.cells #[.pointer (some ⟨bh, 0, none⟩), .pointer (some ⟨w.heap.size + 1, 0, none⟩), .bool true, .string ⟨#[]⟩, .pointer (some ⟨bp, 0, none⟩), .pointer none] 66)))
    clear H3 c2 r1 HB hz hlt2 hm hs
    refine (writeByte_st H0.out.st 123 (by have := KL.out; (try simp only [List.length_append]); (try simp only [List.length_cons]); (try simp only [List.length_nil]); omega)).mono ?_
    rintro e W1 ⟨rfl, hst, hb⟩
    have h := H0.out.next hst hb
    have H1 := Lib.hid h
    have HB1 := Lib.hid (HB0.out.trans (hb.mono (Nat.le_succ _)))
    obtain ⟨c1, c5, f5, d0, r0, r1, r2⟩ := h.cells
    clear h hst hb H0 HB0
    have HG0 := Lib.hid H1.out.setGroups
    have HBG0 := Lib.hid (HB1.out.setCell (p := ⟨w2.heap.size, 5, none⟩) (Nat.le_of_lt hlt3) (.pointer none))
    clear H1 HB1
    have H1 := HG0
    have HB1 := HBG0
    clear HG0 HBG0
    go_wp2_with fail
    refine (appendKey_ok H1.out.st (by decide) keyLevel keyLevel_ok H1.out.safe H1.out.B0 (by have := KL.out; (try simp only [List.length_append]); (try simp only [List.length_cons]); (try simp only [List.length_nil]); omega)).mono ?_
    rintro e W2 ⟨rfl, hst, hb⟩
    have h := H1.out.next hst hb
    have H2 := Lib.hid h
    have HB2 := Lib.hid (HB1.out.trans (hb.mono (Nat.le_succ _)))
    obtain ⟨c1, c5, f5, d0, r0, r1, r2⟩ := h.cells
    clear h hst hb H1 HB1
    go_wp2_with (go_at_call 36; go_must (refine (string_any n hn0 hn1 _).mono ?_; rintro e w' ⟨rfl, rfl⟩))
    refine (appendString_ok H2.out.st (lvl n) (lvl_ok n hn0 hn1) H2.out.safe H2.out.B0 (by have := KL.out; (try simp only [List.length_append]); (try simp only [List.length_cons]); (try simp only [List.length_nil]); omega)).mono ?_
    rintro e W3 ⟨rfl, hst, hb⟩
    have h := H2.out.next hst hb
    have H3 := Lib.hid h
    have HB3 := Lib.hid (HB2.out.trans (hb.mono (Nat.le_succ _)))
    obtain ⟨c1, c5, f5, d0, r0, r1, r2⟩ := h.cells
    clear h hst hb H2 HB2
    go_wp2_with fail
    refine (appendKey_ok H3.out.st (sepOf_size _) keyMsg keyMsg_ok H3.out.safe H3.out.B0 (by have := KL.out; (try simp only [List.length_append]); (try simp only [List.length_cons]); (try simp only [List.length_nil]); omega)).mono ?_
    rintro e W4 ⟨rfl, hst, hb⟩
    have h := H3.out.next hst hb
    have H4 := Lib.hid h
    have HB4 := Lib.hid (HB3.out.trans (hb.mono (Nat.le_succ _)))
    obtain ⟨c1, c5, f5, d0, r0, r1, r2⟩ := h.cells
    clear h hst hb H3 HB3
    go_wp2_with fail
    refine (appendString_ok H4.out.st msg HM.out H4.out.safe H4.out.B0 (by have := KL.out; (try simp only [List.length_append]); (try simp only [List.length_cons]); (try simp only [List.length_nil]); omega)).mono ?_
    rintro e W5 ⟨rfl, hst, hb⟩
    have h := H4.out.next hst hb
    have H5 := Lib.hid h
    have HB5 := Lib.hid (HB4.out.trans (hb.mono (Nat.le_succ _)))
    obtain ⟨c1, c5, f5, d0, r0, r1, r2⟩ := h.cells
    clear h hst hb H4 HB4
    have HG := Lib.hid H5.out.setGroups
    have HBG := Lib.hid (HB5.out.setCell (p := ⟨w2.heap.size, 5, none⟩) (Nat.le_of_lt hlt3) (.pointer none))
    go_wp2_with fail
    refine (nonBuiltIns_none HG.out.st (by have := KL.out; (try simp only [List.length_append]); (try simp only [List.length_cons]); (try simp only [List.length_nil]); omega) msg n).mono ?_
    rintro e W6 ⟨rfl, hst, hb⟩
    have h := HG.out.next hst hb
    have H6 := Lib.hid h
    have HB6 := Lib.hid (HBG.out.trans (hb.mono (Nat.le_succ _)))
    obtain ⟨c1, c5, f5, d0, r0, r1, r2⟩ := h.cells
    clear h hst hb H5 HB5 HG HBG
    go_wp2_with fail
    refine (writeByte_st H6.out.st 10 (by have := KL.out; (try simp only [List.length_append]); (try simp only [if_true]); (try simp only [Bool.false_eq_true, if_false]); (try simp only [List.length_cons]); (try simp only [List.length_nil]); omega)).mono ?_
    rintro e W7 ⟨rfl, hst, hb⟩
    have h := H6.out.next hst hb
    have H7 := Lib.hid h
    have HB7 := Lib.hid (HB6.out.trans (hb.mono (Nat.le_succ _)))
    obtain ⟨c1, c5, f5, d0, r0, r1, r2⟩ := h.cells
    clear h hst hb H6 HB6
    obtain ⟨v, hv, hown⟩ := H7.out.st.b
    have e1 : W7.cell? ⟨w.heap.size + 1, 0, none⟩ = some v := hv.cell 0
    have hcv : (convert 44 9 v).run Tryd.prog W7 = .ok (.string ⟨(lineOf true n msg).toArray⟩) W7 := conv_own (l := lineOf true n msg) hown (by simp [lineOf])
    have HF := Lib.hid (free_deferred H7.out.st .returning)
    clear hv hown H7
    go_wp2_with fail
    refine leaves_cons (f := 22) (args := #[.pointer (some ⟨w2.heap.size, 0, none⟩)]) (by simp) (by simp [go_sem]) ?_
    refine HF.out.mono ?_
    rintro e u' w'' ⟨rfl, rfl, rfl⟩
    exact ⟨_, results_tmp rfl _ _ _, rfl, HB7.out⟩
end
end Go.Proofs.YtcbmphomacbmmaaDoor
