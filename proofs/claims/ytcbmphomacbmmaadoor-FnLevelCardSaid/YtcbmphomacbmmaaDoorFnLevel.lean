/-
  THE LAW FnLevel: for every level from -4 to 8, TextLine of a record with that level and the message a is level=<the level's name> msg=a; outside that range the law asks nothing. The row and the card.
  Conditions: none beyond the row's own: the listed variables hold what their initialisers lay (the card ties them to the text); unicode.PrintRanges is left open and never read.
-/
import Derived.Test.YtcbmphomacbmmaaDoorCards
import Derived.Test.YtcbmphomacbmmaaDoorTie
import Derived.Test.YtcbmphomacbmmaaDoorLevel
import Derived.ProofKit
import Derived.OpenShut
import Derived.Deep.DeepHandedRow
import Derived.Deep.DeepWitnessRowRef
import Derived.Lib.LaidIn
import Derived.Lib.LaidSlice
namespace Go.Proofs.YtcbmphomacbmmaaDoor.fnLevel
open Go.ChangeShapes Go.WideShapes Go.ChangeAt Go.RowKit
set_option linter.unusedVariables false

theorem own : ownKnob Tryd.prog.godebug = none := by kernel_rfl
theorem gSafe : Tryd.prog.globalNamed "loglines/pub/sloglines.safeSet" = some 0 := by kernel_rfl
theorem tSafe : (Tryd.prog.globals[0]?).map (·.type) = some 102 := by kernel_rfl
theorem cells4 : Tryd.prog.cellsOf 4 = 1 := by kernel_rfl
theorem cells102 : Tryd.prog.cellsOf 102 = 128 := by kernel_rfl
def safeList : List Bool := [false, false, false, false, false, false, false, false, false, false, false, false, false, false, false, false, false, false, false, false, false, false, false, false, false, false, false, false, false, false, false, false, true, true, false, true, true, true, true, true, true, true, true, true, true, true, true, true, true, true, true, true, true, true, true, true, true, true, true, true, true, true, true, true, true, true, true, true, true, true, true, true, true, true, true, true, true, true, true, true, true, true, true, true, true, true, true, true, true, true, true, true, false, true, true, true, true, true, true, true, true, true, true, true, true, true, true, true, true, true, true, true, true, true, true, true, true, true, true, true, true, true, true, true, true, true, true, true]
set_option maxRecDepth 100000 in
theorem safe_datum : (Rows.laid_loglines_pub_sloglines_safeSet : DataW Unit) = .agg (safeList.map fun b => .lit (.bool b)) := rfl
set_option maxRecDepth 100000 in
theorem safe_at (c : Nat) (h : okB c) : safeList[c]? = some true := by
  obtain ⟨h0, h1, h2, h3, h4⟩ := h
  have all : ∀ c : Fin 128, 33 ≤ c.val → c.val < 127 → c.val ≠ 34 → c.val ≠ 61 → c.val ≠ 92 → safeList[c.val]? = some true := by decide
  exact all ⟨c, by omega⟩ h0 h1 h2 h3 h4

/-- WHAT THE ROW's LIST GIVES: safeSet's cells at the bytes that need no quoting. -/
theorem safe_of {W : World} (h : laidMet Tryd.prog Rows.fnLevelRow.laid W) : Safe W := by
  intro c hc
  have hr : Lib.VarReads Tryd.prog W "loglines/pub/sloglines.safeSet" (.agg (safeList.map fun b => .lit (.bool b))) := Lib.laidMet.reads h (.tail _ (.tail _ (.tail _ (.tail _ (.tail _ (.tail _ (.head _)))))))
  obtain ⟨g, t, cs, fuel, p, h1, h2, h3, h4⟩ := hr
  obtain rfl : 0 = g := Option.some.inj (gSafe.symm.trans h1)
  obtain rfl : 102 = t := Option.some.inj (tSafe.symm.trans h2)
  have hlt : c < 128 := by have := hc.2.1; omega
  obtain ⟨fuel', d, q, hd, ht⟩ := Lib.array_elem Tryd.underlying102 h4 c hlt
  rw [cells4] at ht
  obtain ⟨b, hcs, hx⟩ := DataW.trod_bool Tryd.underlying4 ht
  have hb : b = true := by
    simp only [Prod.mk.injEq] at hx
    rw [hx.1, List.getElem?_map, safe_at c hc] at hd
    simpa using hd.symm
  subst hb
  have hcell : cs[c]? = some (.bool true) := by
    have := congrArg (·[0]?) hcs
    simpa [List.getElem?_take, List.getElem?_drop] using this
  unfold World.var? at h3
  rw [gSafe] at h3
  simp only [Option.bind_some] at h3
  split at h3
  · rename_i cs' ty fz hh
    cases h3
    simpa [World.cell?, hh] using hcell
  · cases h3

theorem ok33 : okB 33 := by unfold okB; decide
set_option maxRecDepth 100000 in
theorem contract (H : Type) (enc : TypeId × Value → H) (W : World) (base : Nat) (args : Array Value) (ds gs : List (DataW H)) (before : List MemPlace)
    (hval : ∀ (j : Nat) t v, Tryd.f3.params[j]? = some t → args[j]? = some v → Value.okWide Tryd.prog W .any base t v)
    (hW : DataW.Whole enc Tryd.prog Tryd.f3.params.toList Rows.fnLevelSpec.vars false W args.toList ds gs before) (hL : laidMet Tryd.prog Rows.fnLevelRow.laid W) :
    Calls Tryd.prog 3 args W fun e W' => ∃ v, e = .returned v ∧ Rows.fnLevelSpec.post enc Tryd.prog Tryd.f3 false true false false W args v W' := by
  have hW' := hW
  obtain ⟨p, q, hA0, hV, rfl, hfz, hnd⟩ := hW
  have hA : DataW.TrodAll enc Tryd.prog W 0 (fun _ => true) true Tryd.f3.params.toList args.toList ds p := hA0
  rw [Tryd.params3] at hA hval
  obtain ⟨v0, vs0, d0, ds0, p0, q0, hargs, rfl, rfl, h0, r0⟩ := trodAll_cons hA
  obtain ⟨rfl, rfl, rfl⟩ := trodAll_nil r0
  obtain rfl : args = #[v0] := by cases args; simp_all
  obtain ⟨rfl, rfl⟩ := trodVars_none hV
  obtain ⟨a0, rfl, rfl, rfl, w0⟩ := open_int Tryd.underlying3 (hval 0 3 v0 rfl rfl) h0
  clear hA0
  simp only [List.append_nil] at hW'
  have hS := safe_of hL
  have hz : 0 < W.heap.size := by
    have := World.block_lt_of_cell? W ⟨0, 33, none⟩ (hS 33 ok33)
    exact this
  refine (walk a0 W hS hz).mono fun e W' ⟨he, hg⟩ => ?_
  subst he
  exact ⟨_, rfl, _, _, _, [], [], [], hW', trodAll_cons_mk (shut_bool Tryd.underlying4 _) trodAll_mk0, trodAll_cons_mk (shut_int Tryd.underlying3 w0) trodAll_mk0, rfl, hg.frame _, fun h => by cases h⟩

/-! ## The witness: a world in which the thirteen variables hold what their initialisers lay -/
def put (k : IntKind) (xs : List Int) : Obj → Obj
  | .cells _ t frozen => .cells (xs.map (Value.int k)).toArray t frozen
  | o => o
def putv (xs : Array Value) : Obj → Obj
  | .cells _ t frozen => .cells xs t frozen
  | o => o
noncomputable def laidWorld (os : Os) : World :=
  let N := (World.settled Tryd.prog os).heap.size
  let w0 := World.holding Tryd.prog os ⟨#[
    .cells (Lib.intCellsOf .u16 Pinned.isPrint16Z) 123, .cells (Lib.intCellsOf .u16 Pinned.isNotPrint16Z) 123, .cells (Lib.intCellsOf .u32 Pinned.isPrint32Z) 108, .cells (Lib.intCellsOf .u16 Pinned.isNotPrint32Z) 123, .cells (Lib.intCellsOf .u16 Pinned.isGraphicZ) 123,
    .cells #[.slice (some ⟨N + 6, 0, none⟩) 7 7, .slice none 0 0, .int .i64 2] 122, .cells (([9, 13, 1, 32, 133, 101, 160, 5760, 5600, 8192, 8202, 1, 8232, 8233, 1, 8239, 8287, 48, 12288, 12288, 1] : List Int).map (Value.int .u16)).toArray 125], #[], []⟩
  let h0 := w0.heap.modify 0 (putv (safeList.map Value.bool).toArray)
  let h1 := h0.modify 1 (putv #[.pointer (some ⟨N + 5, 0, none⟩)])
  let h2 := h1.modify 2 (put .u8 [1, 1, 1, 1, 1, 1, 1, 1, 1, 1, 1, 1, 1, 1, 1, 1, 1, 1, 1, 1, 1, 1, 1, 1, 1, 1, 1, 1, 1, 1, 1, 1, 144, 130, 130, 130, 136, 130, 130, 130, 130, 130, 130, 136, 130, 130, 130, 130, 132, 132, 132, 132, 132, 132, 132, 132, 132, 132, 130, 130, 136, 136, 136, 130, 130, 160, 160, 160, 160, 160, 160, 160, 160, 160, 160, 160, 160, 160, 160, 160, 160, 160, 160, 160, 160, 160, 160, 160, 160, 160, 160, 130, 130, 130, 136, 130, 136, 192, 192, 192, 192, 192, 192, 192, 192, 192, 192, 192, 192, 192, 192, 192, 192, 192, 192, 192, 192, 192, 192, 192, 192, 192, 192, 130, 136, 130, 136, 1, 1, 1, 1, 1, 1, 1, 1, 1, 1, 1, 1, 1, 1, 1, 1, 1, 1, 1, 1, 1, 1, 1, 1, 1, 1, 1, 1, 1, 1, 1, 1, 1, 16, 130, 136, 136, 136, 136, 136, 130, 136, 136, 224, 130, 136, 0, 136, 136, 136, 136, 132, 132, 136, 192, 130, 130, 136, 132, 224, 130, 132, 132, 132, 130, 160, 160, 160, 160, 160, 160, 160, 160, 160, 160, 160, 160, 160, 160, 160, 160, 160, 160, 160, 160, 160, 160, 160, 136, 160, 160, 160, 160, 160, 160, 160, 192, 192, 192, 192, 192, 192, 192, 192, 192, 192, 192, 192, 192, 192, 192, 192, 192, 192, 192, 192, 192, 192, 192, 192, 136, 192, 192, 192, 192, 192, 192, 192, 192])
  let h4 := h2.modify 4 (putv (Pinned.utf8FirstZ.map fun (n : Nat) => Value.int .u8 n).toArray)
  let h5 := h4.modify 5 (put .u8 [128, 191, 160, 191, 128, 159, 144, 191, 128, 143, 0, 0, 0, 0, 0, 0, 0, 0, 0, 0, 0, 0, 0, 0, 0, 0, 0, 0, 0, 0, 0, 0])
  let h6 := h5.modify 6 (putv #[.slice (some ⟨N, 0, none⟩) Pinned.isPrint16Z.length Pinned.isPrint16Z.length])
  let h7 := h6.modify 7 (putv #[.slice (some ⟨N + 1, 0, none⟩) Pinned.isNotPrint16Z.length Pinned.isNotPrint16Z.length])
  let h8 := h7.modify 8 (putv #[.slice (some ⟨N + 2, 0, none⟩) Pinned.isPrint32Z.length Pinned.isPrint32Z.length])
  let h9 := h8.modify 9 (putv #[.slice (some ⟨N + 3, 0, none⟩) Pinned.isNotPrint32Z.length Pinned.isNotPrint32Z.length])
  let ha := h9.modify 10 (putv #[.slice (some ⟨N + 4, 0, none⟩) Pinned.isGraphicZ.length Pinned.isGraphicZ.length])
  let hb := ha.modify 11 (put .u64 [1, 10, 100, 1000, 10000, 100000, 1000000, 10000000, 100000000, 1000000000, 10000000000, 100000000000, 1000000000000, 10000000000000, 100000000000000, 1000000000000000, 10000000000000000, 100000000000000000, 1000000000000000000, 10000000000000000000])
  let hc := hb.modify 12 (put .u8 [0, 1, 28, 2, 29, 14, 24, 3, 30, 22, 20, 15, 25, 17, 4, 8, 31, 27, 13, 23, 21, 19, 16, 7, 26, 12, 18, 6, 11, 5, 10, 9])
  let hd := hc.modify 13 (put .u8 [0, 1, 56, 2, 57, 49, 28, 3, 61, 58, 42, 50, 38, 29, 17, 4, 62, 47, 59, 36, 45, 43, 51, 22, 53, 39, 33, 30, 24, 18, 12, 5, 63, 55, 48, 27, 60, 41, 37, 16, 46, 35, 44, 21, 52, 32, 23, 11, 54, 26, 40, 15, 34, 20, 31, 10, 25, 14, 19, 9, 13, 8, 7, 6])
  { w0 with heap := hd }
noncomputable abbrev N0 : Nat := (World.settled Tryd.prog default).heap.size
set_option maxRecDepth 1000000 in
theorem piece0 (os : Os) (args : Array Value) : LaidIn Tryd.prog ((laidWorld os).forCall (fun _ _ => 0) ⟨#[], args, []⟩).memory
    [("math/bits.deBruijn32tab", Rows.laid_math_bits_deBruijn32tab), ("math/bits.deBruijn64tab", Rows.laid_math_bits_deBruijn64tab), ("internal/strconv.uint64pow10", Rows.laid_internal_strconv_uint64pow10), ("unicode/utf8.acceptRanges", Rows.laid_unicode_utf8_acceptRanges), ("unicode.White_Space", Rows.laid_unicode_White_Space), ("unicode.properties", Rows.laid_unicode_properties), ("loglines/pub/sloglines.safeSet", Rows.laid_loglines_pub_sloglines_safeSet)]
    [12, 13, 11, 5, 1, N0 + 5, N0 + 6, 2, 0] :=
  LaidIn.of_run [12, 13, 11, 5, 1, N0 + 5, N0 + 6, 2, 0] 12 (by kernel_rfl) (by kernel_rfl) (by kernel_rfl) (by kernel_rfl)
set_option maxRecDepth 1000000 in
theorem pieceG (os : Os) (args : Array Value) : LaidIn Tryd.prog ((laidWorld os).forCall (fun _ _ => 0) ⟨#[], args, []⟩).memory [("strconv.isGraphic", Rows.laid_strconv_isGraphic)] [10, N0 + 4] :=
  Lib.laidIn_slice (t := 139) (e := 123) (te := 123) Pinned.isGraphicZ (N0 + 4) (by kernel_rfl) (by kernel_rfl) (by kernel_rfl) (by kernel_rfl) (by kernel_rfl) (by kernel_rfl) (by kernel_rfl) (by kernel_rfl) (of_decide_eq_true (by kernel_rfl)) (of_decide_eq_true (by kernel_rfl))
set_option maxRecDepth 1000000 in
theorem pieceN16 (os : Os) (args : Array Value) : LaidIn Tryd.prog ((laidWorld os).forCall (fun _ _ => 0) ⟨#[], args, []⟩).memory [("strconv.isNotPrint16", Rows.laid_strconv_isNotPrint16)] [7, N0 + 1] :=
  Lib.laidIn_slice (t := 139) (e := 123) (te := 123) Pinned.isNotPrint16Z (N0 + 1) (by kernel_rfl) (by kernel_rfl) (by kernel_rfl) (by kernel_rfl) (by kernel_rfl) (by kernel_rfl) (by kernel_rfl) (by kernel_rfl) (of_decide_eq_true (by kernel_rfl)) (of_decide_eq_true (by kernel_rfl))
set_option maxRecDepth 1000000 in
theorem pieceN32 (os : Os) (args : Array Value) : LaidIn Tryd.prog ((laidWorld os).forCall (fun _ _ => 0) ⟨#[], args, []⟩).memory [("strconv.isNotPrint32", Rows.laid_strconv_isNotPrint32)] [9, N0 + 3] :=
  Lib.laidIn_slice (t := 139) (e := 123) (te := 123) Pinned.isNotPrint32Z (N0 + 3) (by kernel_rfl) (by kernel_rfl) (by kernel_rfl) (by kernel_rfl) (by kernel_rfl) (by kernel_rfl) (by kernel_rfl) (by kernel_rfl) (of_decide_eq_true (by kernel_rfl)) (of_decide_eq_true (by kernel_rfl))
set_option maxRecDepth 1000000 in
theorem pieceP16 (os : Os) (args : Array Value) : LaidIn Tryd.prog ((laidWorld os).forCall (fun _ _ => 0) ⟨#[], args, []⟩).memory [("strconv.isPrint16", Rows.laid_strconv_isPrint16)] [6, N0] :=
  Lib.laidIn_slice (t := 139) (e := 123) (te := 123) Pinned.isPrint16Z N0 (by kernel_rfl) (by kernel_rfl) (by kernel_rfl) (by kernel_rfl) (by kernel_rfl) (by kernel_rfl) (by kernel_rfl) (by kernel_rfl) (of_decide_eq_true (by kernel_rfl)) (of_decide_eq_true (by kernel_rfl))
set_option maxRecDepth 1000000 in
theorem pieceP32 (os : Os) (args : Array Value) : LaidIn Tryd.prog ((laidWorld os).forCall (fun _ _ => 0) ⟨#[], args, []⟩).memory [("strconv.isPrint32", Rows.laid_strconv_isPrint32)] [8, N0 + 2] :=
  Lib.laidIn_slice (t := 142) (e := 108) (te := 108) Pinned.isPrint32Z (N0 + 2) (by kernel_rfl) (by kernel_rfl) (by kernel_rfl) (by kernel_rfl) (by kernel_rfl) (by kernel_rfl) (by kernel_rfl) (by kernel_rfl) (of_decide_eq_true (by kernel_rfl)) (of_decide_eq_true (by kernel_rfl))
set_option maxRecDepth 1000000 in
theorem pieceF (os : Os) (args : Array Value) : LaidIn Tryd.prog ((laidWorld os).forCall (fun _ _ => 0) ⟨#[], args, []⟩).memory [("unicode/utf8.first", Rows.laid_unicode_utf8_first)] [4] :=
  LaidIn.of_run [4] 8 (by kernel_rfl) (by kernel_rfl) (by kernel_rfl) (by kernel_rfl)
theorem laid_met (os : Os) (args : Array Value) : laidMet Tryd.prog Rows.fnLevelRow.laid ((laidWorld os).forCall (fun _ _ => 0) ⟨#[], args, []⟩).memory :=
  (((((((piece0 os args).append (pieceG os args) (by kernel_rfl)).append (pieceN16 os args) (by kernel_rfl)).append (pieceN32 os args) (by kernel_rfl)).append (pieceP16 os args) (by kernel_rfl)).append (pieceP32 os args) (by kernel_rfl)).append (pieceF os args) (by kernel_rfl)).met

theorem witness_row (os : Os) {H : Type} (enc : TypeId × Value → H) :
    (OpenSpec.ofChange Rows.fnLevelSpec).preRow enc Tryd.prog Tryd.f3 Rows.fnLevelRow.domain false Rows.fnLevelRow.laid ((laidWorld os).forCall (fun _ _ => 0) ⟨#[], #[.int .i64 0], []⟩).memory #[.int .i64 0] := by
  have hw : (DataW.whole enc Tryd.prog ((laidWorld os).forCall (fun _ _ => 0) ⟨#[], #[.int .i64 0], []⟩).memory Tryd.f3.params.toList Rows.fnLevelSpec.vars false #[Value.int .i64 0].toList 8).map (fun x => (x.1, x.2.1)) =
      some ([.lit (.int .i64 0)], []) := by kernel_rfl
  obtain ⟨⟨x1, x2, x3⟩, hx, hx1⟩ := Option.map_eq_some_iff.1 hw
  simp only [Prod.mk.injEq] at hx1
  obtain ⟨rfl, rfl⟩ := hx1
  exact OpenSpec.preRow_of_cond 8 hx (by kernel_rfl) (fun k hk => by cases hk) (by kernel_rfl) (laid_met os _)

set_option maxRecDepth 100000 in
set_option maxHeartbeats 2000000 in
theorem lifted (os : Os) (started : os.Started) (H : Type) (enc : TypeId × Value → H) (F : Stop.Interp) :
    ReturnsInHanded {} Tryd.checked os 3 .any ((OpenSpec.ofChange Rows.fnLevelSpec).preRow enc Tryd.prog Tryd.f3 Rows.fnLevelRow.domain false Rows.fnLevelRow.laid) (((OpenSpec.ofChange Rows.fnLevelSpec).at F).post enc Tryd.prog Tryd.f3 false true false false) := by
  refine returnsInHanded_of_row (C := Tryd.checked) (s := OpenSpec.ofChange Rows.fnLevelSpec) own started (by kernel_rfl) Tryd.func3
    (witness_row_atRef (enc := enc) (C := Tryd.checked) false (laidWorld os) #[.int .i64 0] rfl (by kernel_rfl) (by kernel_rfl) (by kernel_rfl) (witness_row os enc)) ?_
  intro W base args ds gs before hval hW _ _ _ hL _ _
  exact contract H enc W base args ds gs before hval hW hL

theorem said : Rows.FnLevelSaid :=
  OpenClaim.holds_of_cond 3 Tryd.f3 rfl rfl rfl rfl rfl rfl rfl ⟨rfl, rfl, rfl, rfl, rfl⟩ rfl rfl rfl rfl rfl (by kernel_rfl) Tryd.func3 (by kernel_rfl)
    (of_decide_eq_true (by kernel_rfl)) (by unfold Func.isWrapper; first | (rw [if_pos (by decide +kernel)]; kernel_rfl) | (rw [if_neg (by decide +kernel)]; exact ⟨rfl, rfl⟩))
    (fun os started H enc _ F => by rw [OpenClaim.pre_eq_preRow]; exact lifted os started H enc F)

theorem plain (f : FuncId) (fn : Func) (hf : Tryd.pinned.checked.prog.funcNamed "loglines/laws.FnLevel" = some f) (hfn : Tryd.pinned.checked.prog.funcs[f]? = some fn) :
    false = Tryd.pinned.checked.prog.looks [] ∧ ∀ (j : Nat) t, fn.params[j]? = some t → Tryd.pinned.checked.prog.wantsStandIn t = false := by
  obtain rfl : f = 3 := Option.some.inj ((show Tryd.prog.funcNamed "loglines/laws.FnLevel" = some 3 by kernel_rfl).symm.trans hf) |>.symm
  obtain rfl : fn = Tryd.f3 := (Option.some.inj (Tryd.func3.symm.trans hfn)).symm
  refine ⟨by kernel_rfl, fun j t ht => ?_⟩
  rw [Tryd.params3] at ht
  obtain rfl : t = 3 := by simpa using Array.mem_of_getElem? ht
  exact (show Tryd.prog.wantsStandIn 3 = false by kernel_rfl)

/-- THE CARD. -/
theorem card : Rows.FnLevelCardSaid :=
  Claim7.holds_tied_plain_at .later [] _ _ _ _ said (fun _ h => by cases h) (by kernel_rfl) (fun _ h => by cases h) fnLevel_row_tie rfl ⟨rfl, rfl⟩ (by kernel_rfl) rfl plain (by kernel_rfl)
#print axioms card
end Go.Proofs.YtcbmphomacbmmaaDoor.fnLevel
