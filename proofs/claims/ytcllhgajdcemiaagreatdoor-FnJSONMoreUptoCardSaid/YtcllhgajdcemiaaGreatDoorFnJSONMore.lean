/-
  THE LAW FnJSONMore, where the argument's bulk is at most 1,048,576: the row and the card.
  Conditions: none beyond the row's own: the listed variables hold what their initialisers lay (the card ties them to the text); unicode.PrintRanges is left open and never read.
-/
import Derived.Test.YtcllhgajdcemiaaGreatDoorCards
import Derived.Test.YtcllhgajdcemiaaGreatDoorTie
import Derived.Test.YtcllhgajdcemiaaGreatDoorLaid
import Derived.Test.YtcllhgajdcemiaaGreatDoorOpen
import Derived.Test.YtcllhgajdcemiaaGreatDoorLaw4
import Derived.Carry
namespace Go.Proofs.YtcllhgajdcemiaaGreatDoor.fnJSONMore
open Go.ChangeShapes Go.WideShapes Go.ChangeAt Go.RowKit
open Go.Proofs.YtcllhgajdcemiaaGreatDoor.jb
set_option linter.unusedVariables false
theorem laid_same : Rows.fnJSONMoreUptoRow.laid = Rows.fnJSONBackRow.laid := rfl
set_option maxRecDepth 100000 in
theorem contract (H : Type) (enc : TypeId × Value → H) (W : World) (base : Nat) (args : Array Value) (ds gs : List (DataW H)) (before : List MemPlace)
    (hval : ∀ (j : Nat) t v, Tryz.f4.params[j]? = some t → args[j]? = some v → Value.okWide Tryz.prog W .any base t v)
    (hW : DataW.Whole enc Tryz.prog Tryz.f4.params.toList Rows.fnJSONMoreSpec.vars false W args.toList ds gs before) (hL : laidMet Tryz.prog Rows.fnJSONBackRow.laid W) (hk : Rows.uptoSmall H (ds ++ gs) = true) :
    Calls Tryz.prog 4 args W fun e W' => ∃ v, e = .returned v ∧ Rows.fnJSONMoreSpec.post enc Tryz.prog Tryz.f4 false true false false W args v W' := by
  have hW' := hW
  have hlt0 := hW.lt
  obtain ⟨p, q, hA0, hV, rfl, hfz, hnd⟩ := hW
  have hA : DataW.TrodAll enc Tryz.prog W 0 (fun _ => true) true Tryz.f4.params.toList args.toList ds p := hA0
  rw [Tryz.params4] at hA hval
  obtain ⟨v0, vs0, d0, ds0, p0, q0, hargs, rfl, rfl, h0, r0⟩ := trodAll_cons hA
  obtain ⟨v1, vs1, d1, ds1, p1, q1, rfl, rfl, rfl, h1, r1⟩ := trodAll_cons r0
  obtain ⟨v2, vs2, d2, ds2, p2, q2, rfl, rfl, rfl, h2, r2⟩ := trodAll_cons r1
  obtain ⟨rfl, rfl, rfl⟩ := trodAll_nil r2
  obtain rfl : args = #[v0, v1, v2] := by cases args; simp_all
  have k0 := h0
  have k1 := h1
  have k2 := h2
  obtain ⟨rfl, rfl⟩ := trodVars_none hV
  clear hA0
  simp only [List.append_nil] at hW' hk hlt0
  have hB : Rows.uptoBulkAll (H := H) [d0, d1, d2] ≤ 1048576 := of_decide_eq_true hk
  simp only [Rows.uptoBulkAll] at hB
  obtain ⟨n, msg, SA, AA, sc, ac, steps, l, rfl, hS, hsc, hC, hac, hw⟩ := open_log (hval 0 25 v0 rfl rfl) h0
  obtain ⟨key, rfl, rfl, rfl, hm1⟩ := Go.ChangeMaps.open_string Tryz.underlying9 (hval 1 9 v1 rfl rfl) h1
  obtain ⟨value, rfl, rfl, rfl, hm2⟩ := Go.ChangeMaps.open_string Tryz.underlying9 (hval 2 9 v2 rfl rfl) h2
  have s1 := Lib.size_eq key
  have s2 := Lib.size_eq value
  simp only [Rows.uptoBulk] at hB
  have hT := tabs_of hL
  refine (law4 W hT (wksafe_of hL) (heap_of hT) n msg key value steps l SA AA sc ac hS hsc hC hac (by omega) (by omega)).mono fun e W' ⟨he, hg⟩ => ?_
  subst he
  exact ⟨_, rfl, _, _, _, [], _, [], hW', trodAll_cons_mk (shut_bool Tryz.underlying4 _) trodAll_mk0, trodAll_cons_mk (Below.trod laidOutZ (by kernel_rfl) (of_decide_eq_true (by kernel_rfl)) k0 hg (fun x hx => hlt0 x (by simp [hx]))) (trodAll_cons_mk (Below.trod laidOutZ (by kernel_rfl) (of_decide_eq_true (by kernel_rfl)) k1 hg (fun x hx => by cases hx)) (trodAll_cons_mk (Below.trod laidOutZ (by kernel_rfl) (of_decide_eq_true (by kernel_rfl)) k2 hg (fun x hx => by cases hx)) trodAll_mk0)), rfl, World.keptBut_mono (fun x hx => ⟨hx, Or.inr (Or.inl (by simpa using hx))⟩) (hg.frame (· ∈ _)), fun h => by cases h⟩

theorem witness_row (os : Os) {H : Type} (enc : TypeId × Value → H) :
    (Rows.OpenSpec.upto Rows.fnJSONMoreSpec).preRow enc Tryz.prog Tryz.f4 Rows.fnJSONMoreUptoRow.domain false Rows.fnJSONMoreUptoRow.laid ((laidWorld os).forCall (fun _ _ => 0) ⟨#[], #[.agg #[.int .i64 0, .string .empty, .slice none 0 0, .slice none 0 0], .string .empty, .string .empty], []⟩).memory #[.agg #[.int .i64 0, .string .empty, .slice none 0 0, .slice none 0 0], .string .empty, .string .empty] := by
  have hw : (DataW.whole enc Tryz.prog ((laidWorld os).forCall (fun _ _ => 0) ⟨#[], #[.agg #[.int .i64 0, .string .empty, .slice none 0 0, .slice none 0 0], .string .empty, .string .empty], []⟩).memory Tryz.f4.params.toList Rows.fnJSONMoreSpec.vars false ((#[.agg #[.int .i64 0, .string .empty, .slice none 0 0, .slice none 0 0], .string .empty, .string .empty] : Array Value).toList) 8).map (fun x => (x.1, x.2.1)) =
      some ([.agg [.lit (.int .i64 0), .lit (.string []), .nil, .nil], .lit (.string []), .lit (.string [])], []) := by kernel_rfl
  obtain ⟨⟨x1, x2, x3⟩, hx, hx1⟩ := Option.map_eq_some_iff.1 hw
  simp only [Prod.mk.injEq] at hx1
  obtain ⟨rfl, rfl⟩ := hx1
  exact OpenSpec.preRow_of_cond 8 hx (by kernel_rfl) (fun k hk => by cases hk; kernel_rfl) (by kernel_rfl) (laid_met os _)

set_option maxRecDepth 100000 in
set_option maxHeartbeats 2000000 in
theorem lifted (os : Os) (started : os.Started) (H : Type) (enc : TypeId × Value → H) (F : Stop.Interp) :
    ReturnsInHanded {} Tryz.checked os 4 .any ((Rows.OpenSpec.upto Rows.fnJSONMoreSpec).preRow enc Tryz.prog Tryz.f4 Rows.fnJSONMoreUptoRow.domain false Rows.fnJSONMoreUptoRow.laid) (((Rows.OpenSpec.upto Rows.fnJSONMoreSpec).at F).post enc Tryz.prog Tryz.f4 false true false false) := by
  refine returnsInHanded_of_row (C := Tryz.checked) (s := Rows.OpenSpec.upto Rows.fnJSONMoreSpec) own started (by kernel_rfl) Tryz.func4
    (witness_row_atRef (enc := enc) (C := Tryz.checked) false (laidWorld os) #[.agg #[.int .i64 0, .string .empty, .slice none 0 0, .slice none 0 0], .string .empty, .string .empty] rfl (by kernel_rfl) (by kernel_rfl) (by kernel_rfl) (witness_row os enc)) ?_
  intro W base args ds gs before hval hW _ hcond _ hL _ _
  exact contract H enc W base args ds gs before hval hW hL (hcond _ rfl)

theorem said : Rows.FnJSONMoreUptoSaid :=
  OpenClaim.holds_of_cond 4 Tryz.f4 rfl rfl rfl rfl rfl rfl rfl ⟨rfl, rfl, rfl, rfl, rfl⟩ rfl rfl rfl rfl rfl (by kernel_rfl) Tryz.func4 (by kernel_rfl)
    (of_decide_eq_true (by kernel_rfl)) (by unfold Func.isWrapper; first | (rw [if_pos (by decide +kernel)]; kernel_rfl) | (rw [if_neg (by decide +kernel)]; exact ⟨rfl, rfl⟩))
    (fun os started H enc _ F => by rw [OpenClaim.pre_eq_preRow]; exact lifted os started H enc F)

theorem plain (f : FuncId) (fn : Func) (hf : Tryz.pinned.checked.prog.funcNamed "loglines/laws.FnJSONMore" = some f) (hfn : Tryz.pinned.checked.prog.funcs[f]? = some fn) :
    false = Tryz.pinned.checked.prog.looks [] ∧ ∀ (j : Nat) t, fn.params[j]? = some t → Tryz.pinned.checked.prog.wantsStandIn t = false := by
  obtain rfl : f = 4 := Option.some.inj ((show Tryz.prog.funcNamed "loglines/laws.FnJSONMore" = some 4 by kernel_rfl).symm.trans hf) |>.symm
  obtain rfl : fn = Tryz.f4 := (Option.some.inj (Tryz.func4.symm.trans hfn)).symm
  refine ⟨by kernel_rfl, fun j t ht => ?_⟩
  rw [Tryz.params4] at ht
  have hm := Array.mem_of_getElem? ht
  have hall : ∀ t ∈ ([25, 9, 9] : List Nat), Tryz.prog.wantsStandIn t = false := fun t h => by
    simp only [List.mem_cons, List.not_mem_nil, or_false] at h
    rcases h with rfl | rfl | rfl
    all_goals kernel_rfl
  exact hall t (by simpa using hm)

/-- THE CARD. -/
theorem card : Rows.FnJSONMoreUptoCardSaid :=
  Claim7.holds_tied_plain_at .later [] _ _ _ _ said (fun _ h => by cases h) (by kernel_rfl) (fun _ h => by cases h) fnJSONMoreUpto_row_tie rfl ⟨rfl, rfl⟩ (by kernel_rfl) rfl plain (by kernel_rfl)
#print axioms card
end Go.Proofs.YtcllhgajdcemiaaGreatDoor.fnJSONMore
