/-
  What the row's listed variables give (the table of bytes that JSON needs not escape; the tables of unicode/utf8), and a world for the witness. Conditions: none.
-/
import Derived.Test.YtcllhgajdcemiaaGreatDoorRows
import Derived.Test.YtcllhgajdcemiaaGreatDoorEsc
import Derived.ProofKit
import Derived.OpenShut
import Derived.Deep.DeepHandedRow
import Derived.Deep.DeepWitnessRowRef
import Derived.Lib.LaidIn
import Derived.Lib.LaidSlice
import Derived.Lib.LaidU8T
namespace Go.Proofs.YtcllhgajdcemiaaGreatDoor.jb
open Go.ChangeShapes Go.WideShapes Go.ChangeAt Go.RowKit
set_option linter.unusedVariables false
theorem laidOutZ : laidOutB Tryz.prog = true := by kernel_rfl
theorem own : ownKnob Tryz.prog.godebug = none := by kernel_rfl
theorem gSafe : Tryz.prog.globalNamed "loglines/pub/sloglines.safeSet" = some 0 := by kernel_rfl
theorem tSafe : (Tryz.prog.globals[0]?).map (·.type) = some 124 := by kernel_rfl
theorem lcells4 : Tryz.prog.cellsOf 4 = 1 := by kernel_rfl
theorem lcellsS : Tryz.prog.cellsOf 124 = 128 := by kernel_rfl
def safeList : List Bool := [false, false, false, false, false, false, false, false, false, false, false, false, false, false, false, false, false, false, false, false, false, false, false, false, false, false, false, false, false, false, false, false, true, true, false, true, true, true, true, true, true, true, true, true, true, true, true, true, true, true, true, true, true, true, true, true, true, true, true, true, true, true, true, true, true, true, true, true, true, true, true, true, true, true, true, true, true, true, true, true, true, true, true, true, true, true, true, true, true, true, true, true, false, true, true, true, true, true, true, true, true, true, true, true, true, true, true, true, true, true, true, true, true, true, true, true, true, true, true, true, true, true, true, true, true, true, true, true]
set_option maxRecDepth 100000 in
theorem safe_datum : (Rows.laid_loglines_pub_sloglines_safeSet : DataW Unit) = .agg (safeList.map fun b => .lit (.bool b)) := rfl
set_option maxRecDepth 100000 in
theorem safe_at (c : Nat) (h : c < 128) : safeList[c]? = some (safeB c) := by
  have all : ∀ c : Fin 128, safeList[c.val]? = some (safeB c.val) := by decide
  exact all ⟨c, h⟩
theorem safe_of {W : World} (h : laidMet Tryz.prog Rows.fnJSONBackRow.laid W) : SafeT W := by
  intro c hlt
  have hr : Lib.VarReads Tryz.prog W "loglines/pub/sloglines.safeSet" (.agg (safeList.map fun b => .lit (.bool b))) := Lib.laidMet.reads h (.tail _ (.tail _ (.tail _ (.tail _ (.tail _ (.tail _ (.head _)))))))
  obtain ⟨g, t, cs, fuel, p, h1, h2, h3, h4⟩ := hr
  obtain rfl : 0 = g := Option.some.inj (gSafe.symm.trans h1)
  obtain rfl : 124 = t := Option.some.inj (tSafe.symm.trans h2)
  obtain ⟨fuel', d, q, hd, ht⟩ := Lib.array_elem Tryz.underlying124 h4 c hlt
  rw [lcells4] at ht
  obtain ⟨b, hcs, hx⟩ := DataW.trod_bool Tryz.underlying4 ht
  have hb : b = safeB c := by
    simp only [Prod.mk.injEq] at hx
    rw [hx.1, List.getElem?_map, safe_at c hlt] at hd
    simpa using hd.symm
  subst hb
  have hcell : cs[c]? = some (.bool (safeB c)) := by
    have := congrArg (·[0]?) hcs
    simpa [List.getElem?_take, List.getElem?_drop] using this
  unfold World.var? at h3
  rw [gSafe] at h3
  simp only [Option.bind_some] at h3
  split at h3
  · rename_i cs' ty fz hh
    cases h3
    simpa [World.cell?, hh] using hcell
  · cases h3
theorem u8types : U8Types Tryz.prog Tryz.lays197_ren := ⟨Tryz.lays197.t5, Tryz.lays197.t119, Tryz.lays197.t138, Tryz.lays197.t139⟩
theorem u8extra : U8Extra Tryz.prog Tryz.lays197_ren := ⟨by kernel_rfl, by kernel_rfl, by kernel_rfl, by kernel_rfl, by kernel_rfl, by kernel_rfl, by kernel_rfl⟩
set_option maxRecDepth 100000 in
theorem first_datum : (Rows.laid_unicode_utf8_first : DataW Unit) = Lib.firstData := by kernel_rfl
set_option maxRecDepth 100000 in
theorem accept_datum : (Rows.laid_unicode_utf8_acceptRanges : DataW Unit) = Lib.acceptData := by kernel_rfl
theorem tabs_of {W : World} (h : laidMet Tryz.prog Rows.fnJSONBackRow.laid W) : Tabs W := by
  refine ⟨safe_of h, ?_⟩
  have h3 : Lib.VarReads Tryz.prog W "unicode/utf8.first" Rows.laid_unicode_utf8_first := Lib.laidMet.reads h (.tail _ (.tail _ (.tail _ (.tail _ (.tail _ (.tail _ (.tail _ (.tail _ (.tail _ (.tail _ (.tail _ (.tail _ (.head _)))))))))))))
  have h4 : Lib.VarReads Tryz.prog W "unicode/utf8.acceptRanges" Rows.laid_unicode_utf8_acceptRanges := Lib.laidMet.reads h (.tail _ (.tail _ (.tail _ (.head _))))
  rw [first_datum] at h3
  rw [accept_datum] at h4
  exact utf8Tabs_of_readsT u8types u8extra h3 h4
theorem wksafe_of {W : World} (h : laidMet Tryz.prog Rows.fnJSONBackRow.laid W) : Go.Proofs.YtcllhgajdcemiaaGreatDoor.wk.Safe W := by
  intro c hc
  have hlt : c < 128 := by have := hc.2.1; omega
  rw [safe_of h c hlt]
  have : safeB c = true := by
    obtain ⟨h0, h1, h2, h3, h4⟩ := hc
    unfold safeB
    simp only [Bool.and_eq_true, decide_eq_true_eq]
    omega
  rw [this]
theorem heap_of {W : World} (h : Tabs W) : 6 ≤ W.heap.size := by
  have := World.block_lt_of_cell? W ⟨5, 2 * 0, none⟩ (h.utf.2 0 (by decide)).1
  exact this
/-! ## The witness: a world in which the thirteen variables hold what their initialisers lay -/
def put (k : IntKind) (xs : List Int) : Obj → Obj
  | .cells _ t frozen => .cells (xs.map (Value.int k)).toArray t frozen
  | o => o
def putv (xs : Array Value) : Obj → Obj
  | .cells _ t frozen => .cells xs t frozen
  | o => o
noncomputable def laidWorld (os : Os) : World :=
  let N := (World.settled Tryz.prog os).heap.size
  let w0 := World.holding Tryz.prog os ⟨#[
    .cells (Lib.intCellsOf .u16 Pinned.isPrint16Z) 144, .cells (Lib.intCellsOf .u16 Pinned.isNotPrint16Z) 144, .cells (Lib.intCellsOf .u32 Pinned.isPrint32Z) 129, .cells (Lib.intCellsOf .u16 Pinned.isNotPrint32Z) 144, .cells (Lib.intCellsOf .u16 Pinned.isGraphicZ) 144,
    .cells #[.slice (some ⟨N + 6, 0, none⟩) 7 7, .slice none 0 0, .int .i64 2] 143, .cells (([9, 13, 1, 32, 133, 101, 160, 5760, 5600, 8192, 8202, 1, 8232, 8233, 1, 8239, 8287, 48, 12288, 12288, 1] : List Int).map (Value.int .u16)).toArray 146], #[], []⟩
  let h0 := w0.heap.modify 0 (putv (safeList.map Value.bool).toArray)
  let h1 := h0.modify 1 (putv #[.pointer (some ⟨N + 5, 0, none⟩)])
  let h2 := h1.modify 2 (put .u8 [1, 1, 1, 1, 1, 1, 1, 1, 1, 1, 1, 1, 1, 1, 1, 1, 1, 1, 1, 1, 1, 1, 1, 1, 1, 1, 1, 1, 1, 1, 1, 1, 144, 130, 130, 130, 136, 130, 130, 130, 130, 130, 130, 136, 130, 130, 130, 130, 132, 132, 132, 132, 132, 132, 132, 132, 132, 132, 130, 130, 136, 136, 136, 130, 130, 160, 160, 160, 160, 160, 160, 160, 160, 160, 160, 160, 160, 160, 160, 160, 160, 160, 160, 160, 160, 160, 160, 160, 160, 160, 160, 130, 130, 130, 136, 130, 136, 192, 192, 192, 192, 192, 192, 192, 192, 192, 192, 192, 192, 192, 192, 192, 192, 192, 192, 192, 192, 192, 192, 192, 192, 192, 192, 130, 136, 130, 136, 1, 1, 1, 1, 1, 1, 1, 1, 1, 1, 1, 1, 1, 1, 1, 1, 1, 1, 1, 1, 1, 1, 1, 1, 1, 1, 1, 1, 1, 1, 1, 1, 1, 16, 130, 136, 136, 136, 136, 136, 130, 136, 136, 224, 130, 136, 0, 136, 136, 136, 136, 132, 132, 136, 192, 130, 130, 136, 132, 224, 130, 132, 132, 132, 130, 160, 160, 160, 160, 160, 160, 160, 160, 160, 160, 160, 160, 160, 160, 160, 160, 160, 160, 160, 160, 160, 160, 160, 136, 160, 160, 160, 160, 160, 160, 160, 192, 192, 192, 192, 192, 192, 192, 192, 192, 192, 192, 192, 192, 192, 192, 192, 192, 192, 192, 192, 192, 192, 192, 192, 136, 192, 192, 192, 192, 192, 192, 192, 192])
  let h4 := h2.modify 4 (putv (Pinned.utf8FirstZ.map fun (n : Nat) => Value.int .u8 n).toArray)
  let h5 := h4.modify 5 (put .u8 [128, 191, 160, 191, 128, 159, 144, 191, 128, 143, 0, 0, 0, 0, 0, 0, 0, 0, 0, 0, 0, 0, 0, 0, 0, 0, 0, 0, 0, 0, 0, 0])
  let h6 := h5.modify 6 (putv #[.slice (some ⟨N, 0, none⟩) Pinned.isPrint16Z.length Pinned.isPrint16Z.length])
  let h7 := h6.modify 7 (putv #[.slice (some ⟨N + 1, 0, none⟩) Pinned.isNotPrint16Z.length Pinned.isNotPrint16Z.length])
  let h8 := h7.modify 8 (putv #[.slice (some ⟨N + 2, 0, none⟩) Pinned.isPrint32Z.length Pinned.isPrint32Z.length])
  let h9 := h8.modify 9 (putv #[.slice (some ⟨N + 3, 0, none⟩) Pinned.isNotPrint32Z.length Pinned.isNotPrint32Z.length])
  let ha := h9.modify 10 (putv #[.slice (some ⟨N + 4, 0, none⟩) Pinned.isGraphicZ.length Pinned.isGraphicZ.length])
  let hb := ha.modify 11 (put .u64 [1, 10, 100, 1000, 10000, 100000, 1000000, 10000000, 100000000, 1000000000, 10000000000, 100000000000, 1000000000000, 10000000000000, 100000000000000, 1000000000000000, 10000000000000000, 100000000000000000, 1000000000000000000, 10000000000000000000])
  let hc := hb.modify 12 (put .u8 [0, 1, 28, 2, 29, 14, 24, 3, 30, 22, 20, 15, 25, 17, 4, 8, 31, 27, 13, 23, 21, 19, 16, 7, 26, 12, 18, 6, 11, 5, 10, 9])
  let hd := hc.modify 13 (put .u8 [0, 1, 56, 2, 57, 49, 28, 3, 61, 58, 42, 50, 38, 29, 17, 4, 62, 47, 59, 36, 45, 43, 51, 22, 53, 39, 33, 30, 24, 18, 12, 5, 63, 55, 48, 27, 60, 41, 37, 16, 46, 35, 44, 21, 52, 32, 23, 11, 54, 26, 40, 15, 34, 20, 31, 10, 25, 14, 19, 9, 13, 8, 7, 6])
  { w0 with heap := hd }
noncomputable abbrev N0 : Nat := (World.settled Tryz.prog default).heap.size
set_option maxRecDepth 1000000 in
theorem piece0 (os : Os) (args : Array Value) : LaidIn Tryz.prog ((laidWorld os).forCall (fun _ _ => 0) ⟨#[], args, []⟩).memory
    [("math/bits.deBruijn32tab", Rows.laid_math_bits_deBruijn32tab), ("math/bits.deBruijn64tab", Rows.laid_math_bits_deBruijn64tab), ("internal/strconv.uint64pow10", Rows.laid_internal_strconv_uint64pow10), ("unicode/utf8.acceptRanges", Rows.laid_unicode_utf8_acceptRanges), ("unicode.White_Space", Rows.laid_unicode_White_Space), ("unicode.properties", Rows.laid_unicode_properties), ("loglines/pub/sloglines.safeSet", Rows.laid_loglines_pub_sloglines_safeSet)]
    [12, 13, 11, 5, 1, N0 + 5, N0 + 6, 2, 0] :=
  LaidIn.of_run [12, 13, 11, 5, 1, N0 + 5, N0 + 6, 2, 0] 12 (by kernel_rfl) (by kernel_rfl) (by kernel_rfl) (by kernel_rfl)
set_option maxRecDepth 1000000 in
theorem pieceG (os : Os) (args : Array Value) : LaidIn Tryz.prog ((laidWorld os).forCall (fun _ _ => 0) ⟨#[], args, []⟩).memory [("strconv.isGraphic", Rows.laid_strconv_isGraphic)] [10, N0 + 4] :=
  Lib.laidIn_slice (t := 160) (e := 144) (te := 144) Pinned.isGraphicZ (N0 + 4) (by kernel_rfl) (by kernel_rfl) (by kernel_rfl) (by kernel_rfl) (by kernel_rfl) (by kernel_rfl) (by kernel_rfl) (by kernel_rfl) (of_decide_eq_true (by kernel_rfl)) (of_decide_eq_true (by kernel_rfl))
set_option maxRecDepth 1000000 in
theorem pieceN16 (os : Os) (args : Array Value) : LaidIn Tryz.prog ((laidWorld os).forCall (fun _ _ => 0) ⟨#[], args, []⟩).memory [("strconv.isNotPrint16", Rows.laid_strconv_isNotPrint16)] [7, N0 + 1] :=
  Lib.laidIn_slice (t := 160) (e := 144) (te := 144) Pinned.isNotPrint16Z (N0 + 1) (by kernel_rfl) (by kernel_rfl) (by kernel_rfl) (by kernel_rfl) (by kernel_rfl) (by kernel_rfl) (by kernel_rfl) (by kernel_rfl) (of_decide_eq_true (by kernel_rfl)) (of_decide_eq_true (by kernel_rfl))
set_option maxRecDepth 1000000 in
theorem pieceN32 (os : Os) (args : Array Value) : LaidIn Tryz.prog ((laidWorld os).forCall (fun _ _ => 0) ⟨#[], args, []⟩).memory [("strconv.isNotPrint32", Rows.laid_strconv_isNotPrint32)] [9, N0 + 3] :=
  Lib.laidIn_slice (t := 160) (e := 144) (te := 144) Pinned.isNotPrint32Z (N0 + 3) (by kernel_rfl) (by kernel_rfl) (by kernel_rfl) (by kernel_rfl) (by kernel_rfl) (by kernel_rfl) (by kernel_rfl) (by kernel_rfl) (of_decide_eq_true (by kernel_rfl)) (of_decide_eq_true (by kernel_rfl))
set_option maxRecDepth 1000000 in
theorem pieceP16 (os : Os) (args : Array Value) : LaidIn Tryz.prog ((laidWorld os).forCall (fun _ _ => 0) ⟨#[], args, []⟩).memory [("strconv.isPrint16", Rows.laid_strconv_isPrint16)] [6, N0] :=
  Lib.laidIn_slice (t := 160) (e := 144) (te := 144) Pinned.isPrint16Z N0 (by kernel_rfl) (by kernel_rfl) (by kernel_rfl) (by kernel_rfl) (by kernel_rfl) (by kernel_rfl) (by kernel_rfl) (by kernel_rfl) (of_decide_eq_true (by kernel_rfl)) (of_decide_eq_true (by kernel_rfl))
set_option maxRecDepth 1000000 in
theorem pieceP32 (os : Os) (args : Array Value) : LaidIn Tryz.prog ((laidWorld os).forCall (fun _ _ => 0) ⟨#[], args, []⟩).memory [("strconv.isPrint32", Rows.laid_strconv_isPrint32)] [8, N0 + 2] :=
  Lib.laidIn_slice (t := 162) (e := 129) (te := 129) Pinned.isPrint32Z (N0 + 2) (by kernel_rfl) (by kernel_rfl) (by kernel_rfl) (by kernel_rfl) (by kernel_rfl) (by kernel_rfl) (by kernel_rfl) (by kernel_rfl) (of_decide_eq_true (by kernel_rfl)) (of_decide_eq_true (by kernel_rfl))
set_option maxRecDepth 1000000 in
theorem pieceF (os : Os) (args : Array Value) : LaidIn Tryz.prog ((laidWorld os).forCall (fun _ _ => 0) ⟨#[], args, []⟩).memory [("unicode/utf8.first", Rows.laid_unicode_utf8_first)] [4] :=
  LaidIn.of_run [4] 8 (by kernel_rfl) (by kernel_rfl) (by kernel_rfl) (by kernel_rfl)
theorem laid_met (os : Os) (args : Array Value) : laidMet Tryz.prog Rows.fnJSONBackRow.laid ((laidWorld os).forCall (fun _ _ => 0) ⟨#[], args, []⟩).memory :=
  (((((((piece0 os args).append (pieceG os args) (by kernel_rfl)).append (pieceN16 os args) (by kernel_rfl)).append (pieceN32 os args) (by kernel_rfl)).append (pieceP16 os args) (by kernel_rfl)).append (pieceP32 os args) (by kernel_rfl)).append (pieceF os args) (by kernel_rfl)).met

end Go.Proofs.YtcllhgajdcemiaaGreatDoor.jb
