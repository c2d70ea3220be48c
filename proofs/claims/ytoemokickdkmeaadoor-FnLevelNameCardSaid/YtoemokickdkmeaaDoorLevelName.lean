/-
  THE LAW FnLevelName: for every level from -4 to 8, impl.LevelName(n) is the name that spec.Level gives; outside that range the law asks nothing.
  Conditions: none beyond the row's own: the three listed tables of Go's library hold what their initialisers lay (the card ties them to the text). The walk never reads them.
-/
import Derived.Test.YtoemokickdkmeaaDoorCards
import Derived.Test.YtoemokickdkmeaaDoorTie
import Derived.WalkKit
import Derived.ProofKit
import Derived.OpenShut
import Derived.Deep.DeepHandedRow
import Derived.Lib.LaidTab
import Derived.Laws.BytesArg
namespace Go.Proofs.YtoemokickdkmeaaDoor.fnLevelName
open Go.ChangeShapes Go.WideShapes Go.ChangeAt Go.RowKit
set_option linter.unusedVariables false

theorem own : ownKnob Tryd.prog.godebug = none := by kernel_rfl

def Good (w : World) (e : Ending) (w' : World) : Prop := e = .returned (.bool true) ∧ Grown w w'

/-- Outside the range the law returns at its first test. -/
theorem walk_low (n : Int) (h0 : -9223372036854775808 ≤ n) (h : n < -4) (w : World) : Calls Tryd.prog 3 #[.int .i64 n] w (Good w) := by
  go_enter Tryd.func3, Tryd.ntmps3
  go_wp2
  all_goals go_ret
  all_goals exact ⟨rfl, by repeat (first | exact Grown.refl _ | apply Grown.drew | apply Grown.alloc)⟩
theorem walk_high (n : Int) (h1 : n ≤ 9223372036854775807) (h : 8 < n) (w : World) : Calls Tryd.prog 3 #[.int .i64 n] w (Good w) := by
  go_enter Tryd.func3, Tryd.ntmps3
  go_wp2
  all_goals go_ret
  all_goals exact ⟨rfl, by repeat (first | exact Grown.refl _ | apply Grown.drew | apply Grown.alloc)⟩

/-! string([]byte{c}): the one digit behind the plus sign. -/
theorem conv49 (w : World) : (convert 24 9 (.slice (some ⟨w.heap.size, 0, none⟩) 1 1)).run Tryd.prog (w.alloc (.cells #[.int .u8 49] 5)) = .ok (.string ⟨#[49]⟩) (w.alloc (.cells #[.int .u8 49] 5)) := by
  rw [run_convert_bytes_arg (P := Tryd.prog) _ 24 5 Tryd.underlying24 Tryd.underlying5 w.heap.size 0 1 1 [49] rfl (fun i hi => by
    obtain rfl : i = 0 := by omega
    simp) 9 Tryd.underlying9]
  rfl
theorem conv50 (w : World) : (convert 24 9 (.slice (some ⟨w.heap.size, 0, none⟩) 1 1)).run Tryd.prog (w.alloc (.cells #[.int .u8 50] 5)) = .ok (.string ⟨#[50]⟩) (w.alloc (.cells #[.int .u8 50] 5)) := by
  rw [run_convert_bytes_arg (P := Tryd.prog) _ 24 5 Tryd.underlying24 Tryd.underlying5 w.heap.size 0 1 1 [50] rfl (fun i hi => by
    obtain rfl : i = 0 := by omega
    simp) 9 Tryd.underlying9]
  rfl
theorem conv51 (w : World) : (convert 24 9 (.slice (some ⟨w.heap.size, 0, none⟩) 1 1)).run Tryd.prog (w.alloc (.cells #[.int .u8 51] 5)) = .ok (.string ⟨#[51]⟩) (w.alloc (.cells #[.int .u8 51] 5)) := by
  rw [run_convert_bytes_arg (P := Tryd.prog) _ 24 5 Tryd.underlying24 Tryd.underlying5 w.heap.size 0 1 1 [51] rfl (fun i hi => by
    obtain rfl : i = 0 := by omega
    simp) 9 Tryd.underlying9]
  rfl

/-! The thirteen levels, one walk each. -/
theorem walk_m4 (w : World) : Calls Tryd.prog 3 #[.int .i64 (-4)] w (Good w) := by
  have hmf : ∀ (fn : Fn) (first cap : Array Value) (w : World), (Instr.makeFunc fn first cap).run Tryd.prog w = .ok (.func fn first cap) w := fun _ _ _ _ => rfl
  go_enter Tryd.func3, Tryd.ntmps3
  go_wp2
  all_goals go_ret
  all_goals exact ⟨by kernel_rfl, by repeat (first | exact Grown.refl _ | apply Grown.drew | apply Grown.alloc)⟩
theorem walk_m3 (w : World) : Calls Tryd.prog 3 #[.int .i64 (-3)] w (Good w) := by
  have hmf : ∀ (fn : Fn) (first cap : Array Value) (w : World), (Instr.makeFunc fn first cap).run Tryd.prog w = .ok (.func fn first cap) w := fun _ _ _ _ => rfl
  have hcv := conv49
  go_enter Tryd.func3, Tryd.ntmps3
  go_wp2
  all_goals go_ret
  all_goals exact ⟨by kernel_rfl, by repeat (first | exact Grown.refl _ | apply Grown.drew | apply Grown.alloc)⟩
theorem walk_m2 (w : World) : Calls Tryd.prog 3 #[.int .i64 (-2)] w (Good w) := by
  have hmf : ∀ (fn : Fn) (first cap : Array Value) (w : World), (Instr.makeFunc fn first cap).run Tryd.prog w = .ok (.func fn first cap) w := fun _ _ _ _ => rfl
  have hcv := conv50
  go_enter Tryd.func3, Tryd.ntmps3
  go_wp2
  all_goals go_ret
  all_goals exact ⟨by kernel_rfl, by repeat (first | exact Grown.refl _ | apply Grown.drew | apply Grown.alloc)⟩
theorem walk_m1 (w : World) : Calls Tryd.prog 3 #[.int .i64 (-1)] w (Good w) := by
  have hmf : ∀ (fn : Fn) (first cap : Array Value) (w : World), (Instr.makeFunc fn first cap).run Tryd.prog w = .ok (.func fn first cap) w := fun _ _ _ _ => rfl
  have hcv := conv51
  go_enter Tryd.func3, Tryd.ntmps3
  go_wp2
  all_goals go_ret
  all_goals exact ⟨by kernel_rfl, by repeat (first | exact Grown.refl _ | apply Grown.drew | apply Grown.alloc)⟩
theorem walk_0 (w : World) : Calls Tryd.prog 3 #[.int .i64 0] w (Good w) := by
  have hmf : ∀ (fn : Fn) (first cap : Array Value) (w : World), (Instr.makeFunc fn first cap).run Tryd.prog w = .ok (.func fn first cap) w := fun _ _ _ _ => rfl
  go_enter Tryd.func3, Tryd.ntmps3
  go_wp2
  all_goals go_ret
  all_goals exact ⟨by kernel_rfl, by repeat (first | exact Grown.refl _ | apply Grown.drew | apply Grown.alloc)⟩
theorem walk_1 (w : World) : Calls Tryd.prog 3 #[.int .i64 1] w (Good w) := by
  have hmf : ∀ (fn : Fn) (first cap : Array Value) (w : World), (Instr.makeFunc fn first cap).run Tryd.prog w = .ok (.func fn first cap) w := fun _ _ _ _ => rfl
  have hcv := conv49
  go_enter Tryd.func3, Tryd.ntmps3
  go_wp2
  all_goals go_ret
  all_goals exact ⟨by kernel_rfl, by repeat (first | exact Grown.refl _ | apply Grown.drew | apply Grown.alloc)⟩
theorem walk_2 (w : World) : Calls Tryd.prog 3 #[.int .i64 2] w (Good w) := by
  have hmf : ∀ (fn : Fn) (first cap : Array Value) (w : World), (Instr.makeFunc fn first cap).run Tryd.prog w = .ok (.func fn first cap) w := fun _ _ _ _ => rfl
  have hcv := conv50
  go_enter Tryd.func3, Tryd.ntmps3
  go_wp2
  all_goals go_ret
  all_goals exact ⟨by kernel_rfl, by repeat (first | exact Grown.refl _ | apply Grown.drew | apply Grown.alloc)⟩
theorem walk_3 (w : World) : Calls Tryd.prog 3 #[.int .i64 3] w (Good w) := by
  have hmf : ∀ (fn : Fn) (first cap : Array Value) (w : World), (Instr.makeFunc fn first cap).run Tryd.prog w = .ok (.func fn first cap) w := fun _ _ _ _ => rfl
  have hcv := conv51
  go_enter Tryd.func3, Tryd.ntmps3
  go_wp2
  all_goals go_ret
  all_goals exact ⟨by kernel_rfl, by repeat (first | exact Grown.refl _ | apply Grown.drew | apply Grown.alloc)⟩
theorem walk_4 (w : World) : Calls Tryd.prog 3 #[.int .i64 4] w (Good w) := by
  have hmf : ∀ (fn : Fn) (first cap : Array Value) (w : World), (Instr.makeFunc fn first cap).run Tryd.prog w = .ok (.func fn first cap) w := fun _ _ _ _ => rfl
  go_enter Tryd.func3, Tryd.ntmps3
  go_wp2
  all_goals go_ret
  all_goals exact ⟨by kernel_rfl, by repeat (first | exact Grown.refl _ | apply Grown.drew | apply Grown.alloc)⟩
theorem walk_5 (w : World) : Calls Tryd.prog 3 #[.int .i64 5] w (Good w) := by
  have hmf : ∀ (fn : Fn) (first cap : Array Value) (w : World), (Instr.makeFunc fn first cap).run Tryd.prog w = .ok (.func fn first cap) w := fun _ _ _ _ => rfl
  have hcv := conv49
  go_enter Tryd.func3, Tryd.ntmps3
  go_wp2
  all_goals go_ret
  all_goals exact ⟨by kernel_rfl, by repeat (first | exact Grown.refl _ | apply Grown.drew | apply Grown.alloc)⟩
theorem walk_6 (w : World) : Calls Tryd.prog 3 #[.int .i64 6] w (Good w) := by
  have hmf : ∀ (fn : Fn) (first cap : Array Value) (w : World), (Instr.makeFunc fn first cap).run Tryd.prog w = .ok (.func fn first cap) w := fun _ _ _ _ => rfl
  have hcv := conv50
  go_enter Tryd.func3, Tryd.ntmps3
  go_wp2
  all_goals go_ret
  all_goals exact ⟨by kernel_rfl, by repeat (first | exact Grown.refl _ | apply Grown.drew | apply Grown.alloc)⟩
theorem walk_7 (w : World) : Calls Tryd.prog 3 #[.int .i64 7] w (Good w) := by
  have hmf : ∀ (fn : Fn) (first cap : Array Value) (w : World), (Instr.makeFunc fn first cap).run Tryd.prog w = .ok (.func fn first cap) w := fun _ _ _ _ => rfl
  have hcv := conv51
  go_enter Tryd.func3, Tryd.ntmps3
  go_wp2
  all_goals go_ret
  all_goals exact ⟨by kernel_rfl, by repeat (first | exact Grown.refl _ | apply Grown.drew | apply Grown.alloc)⟩
theorem walk_8 (w : World) : Calls Tryd.prog 3 #[.int .i64 8] w (Good w) := by
  have hmf : ∀ (fn : Fn) (first cap : Array Value) (w : World), (Instr.makeFunc fn first cap).run Tryd.prog w = .ok (.func fn first cap) w := fun _ _ _ _ => rfl
  go_enter Tryd.func3, Tryd.ntmps3
  go_wp2
  all_goals go_ret
  all_goals exact ⟨by kernel_rfl, by repeat (first | exact Grown.refl _ | apply Grown.drew | apply Grown.alloc)⟩

theorem walk (n : Int) (w0 : (Lit.int .i64 n).wf = true) (w : World) : Calls Tryd.prog 3 #[.int .i64 n] w (Good w) := by
  have hx : -9223372036854775808 ≤ n ∧ n ≤ 9223372036854775807 := by simpa [Lit.wf, IntKind.min, IntKind.max, IntKind.signed, IntKind.bits] using w0
  by_cases hl : n < -4
  · exact walk_low n hx.1 hl w
  by_cases hh : 8 < n
  · exact walk_high n hx.2 hh w
  have hn : n = -4 ∨ n = -3 ∨ n = -2 ∨ n = -1 ∨ n = 0 ∨ n = 1 ∨ n = 2 ∨ n = 3 ∨ n = 4 ∨ n = 5 ∨ n = 6 ∨ n = 7 ∨ n = 8 := by omega
  rcases hn with rfl | rfl | rfl | rfl | rfl | rfl | rfl | rfl | rfl | rfl | rfl | rfl | rfl
  · exact walk_m4 w
  · exact walk_m3 w
  · exact walk_m2 w
  · exact walk_m1 w
  · exact walk_0 w
  · exact walk_1 w
  · exact walk_2 w
  · exact walk_3 w
  · exact walk_4 w
  · exact walk_5 w
  · exact walk_6 w
  · exact walk_7 w
  · exact walk_8 w

/-- WHAT THE WALK GIVES, FOR EVERY ARGUMENT. -/
theorem contract (H : Type) (enc : TypeId × Value → H) (W : World) (base : Nat) (args : Array Value) (ds gs : List (DataW H)) (before : List MemPlace)
    (hval : ∀ (j : Nat) t v, Tryd.f3.params[j]? = some t → args[j]? = some v → Value.okWide Tryd.prog W .any base t v)
    (hW : DataW.Whole enc Tryd.prog Tryd.f3.params.toList Rows.fnLevelNameSpec.vars false W args.toList ds gs before) :
    Calls Tryd.prog 3 args W fun e W' => ∃ v, e = .returned v ∧ Rows.fnLevelNameSpec.post enc Tryd.prog Tryd.f3 false true false false W args v W' := by
  have hW' := hW
  obtain ⟨p, q, hA0, hV, rfl, hfz, hnd⟩ := hW
  have hA : DataW.TrodAll enc Tryd.prog W 0 (fun _ => true) true Tryd.f3.params.toList args.toList ds p := hA0
  rw [Tryd.params3] at hA hval
  obtain ⟨v0, vs0, d0, ds0, p0, q0, hargs, rfl, rfl, h0, r0⟩ := trodAll_cons hA
  obtain ⟨rfl, rfl, rfl⟩ := trodAll_nil r0
  obtain rfl : args = #[v0] := by cases args; simp_all
  obtain ⟨rfl, rfl⟩ := trodVars_none hV
  obtain ⟨a0, rfl, rfl, rfl, w0⟩ := open_int Tryd.underlying3 (hval 0 3 v0 rfl rfl) h0
  clear hA0
  simp only [List.append_nil] at hW'
  refine (walk a0 w0 W).mono fun e W' ⟨he, hg⟩ => ?_
  subst he
  exact ⟨_, rfl, post_of_same (pa := []) (pv := []) hW' (fun _ _ _ => trodAll_cons_mk (shut_bool Tryd.underlying4 _) trodAll_mk0) (fun _ _ => trodAll_cons_mk (shut_int Tryd.underlying3 w0) trodAll_mk0) (fun _ _ => rfl) rfl
    (hg.frame _) hg.2.1 (ok_one (by kernel_rfl) rfl (okWide_bool_mk Tryd.underlying4 _))⟩

/-- A WORLD FOR THE WITNESS: the settled one, the three tables (blocks 0, 1, 2) holding what their initialisers lay. -/
def put (k : IntKind) (xs : List Int) : Obj → Obj
  | .cells _ t frozen => .cells (xs.map (Value.int k)).toArray t frozen
  | o => o
noncomputable def laidWorld (os : Os) : World :=
  { World.holding Tryd.prog os ⟨#[], #[], []⟩ with heap := (((World.holding Tryd.prog os ⟨#[], #[], []⟩).heap.modify 0 (put .u64 [1, 10, 100, 1000, 10000, 100000, 1000000, 10000000, 100000000, 1000000000, 10000000000, 100000000000, 1000000000000, 10000000000000, 100000000000000, 1000000000000000, 10000000000000000, 100000000000000000, 1000000000000000000, 10000000000000000000])).modify 1 (put .u8 [0, 1, 28, 2, 29, 14, 24, 3, 30, 22, 20, 15, 25, 17, 4, 8, 31, 27, 13, 23, 21, 19, 16, 7, 26, 12, 18, 6, 11, 5, 10, 9])).modify 2 (put .u8 [0, 1, 56, 2, 57, 49, 28, 3, 61, 58, 42, 50, 38, 29, 17, 4, 62, 47, 59, 36, 45, 43, 51, 22, 53, 39, 33, 30, 24, 18, 12, 5, 63, 55, 48, 27, 60, 41, 37, 16, 46, 35, 44, 21, 52, 32, 23, 11, 54, 26, 40, 15, 34, 20, 31, 10, 25, 14, 19, 9, 13, 8, 7, 6]) }
theorem laid_met (os : Os) : laidMet Tryd.prog Rows.fnLevelNameRow.laid ((laidWorld os).forCall (fun _ _ => 0) ⟨#[], #[.int .i64 0], []⟩).memory :=
  laidMet_of_run' 8 (by kernel_rfl) (by kernel_rfl)
theorem reads (os : Os) {H : Type} (enc : TypeId × Value → H) : ∃ places, DataW.whole enc Tryd.prog ((laidWorld os).forCall (fun _ _ => 0) ⟨#[], #[.int .i64 0], []⟩).memory Tryd.f3.params.toList Rows.fnLevelNameSpec.vars false #[Value.int .i64 0].toList 8 = some ([.lit (.int .i64 0)], [], places) :=
  ⟨[], by kernel_rfl⟩

set_option maxRecDepth 100000 in
theorem lifted (os : Os) (started : os.Started) (H : Type) (enc : TypeId × Value → H) (F : Stop.Interp) :
    ReturnsInHanded {} Tryd.checked os 3 .any ((OpenSpec.ofChange Rows.fnLevelNameSpec).preRow enc Tryd.prog Tryd.f3 Rows.fnLevelNameRow.domain false Rows.fnLevelNameRow.laid) (((OpenSpec.ofChange Rows.fnLevelNameSpec).at F).post enc Tryd.prog Tryd.f3 false true false false) := by
  obtain ⟨places, hx⟩ := reads os enc
  refine returnsInHanded_of_row (C := Tryd.checked) (s := OpenSpec.ofChange Rows.fnLevelNameSpec) own started (by kernel_rfl) Tryd.func3
    (witness_row_at (enc := enc) (C := Tryd.checked) false (laidWorld os) #[.int .i64 0] rfl (by kernel_rfl) (by kernel_rfl) (by kernel_rfl)
      (OpenSpec.preRow_of_cond 8 hx (by kernel_rfl) (fun k hk => by cases hk) (by kernel_rfl) (laid_met os))) ?_
  intro W base args ds gs before hval hW _ _ _ _ _ _
  exact contract H enc W base args ds gs before hval hW

theorem said : Rows.FnLevelNameSaid :=
  OpenClaim.holds_of_cond 3 Tryd.f3 rfl rfl rfl rfl rfl rfl rfl ⟨rfl, rfl, rfl, rfl, rfl⟩ rfl rfl rfl rfl rfl (by kernel_rfl) Tryd.func3 (by kernel_rfl)
    (of_decide_eq_true (by kernel_rfl)) (by unfold Func.isWrapper; first | (rw [if_pos (by decide +kernel)]; kernel_rfl) | (rw [if_neg (by decide +kernel)]; exact ⟨rfl, rfl⟩))
    (fun os started H enc _ F => by rw [OpenClaim.pre_eq_preRow]; exact lifted os started H enc F)

/-- No parameter wants a stand-in; the program's own looks are off: what the card asks. -/
theorem plain (f : FuncId) (fn : Func) (hf : Tryd.pinned.checked.prog.funcNamed "loglines/laws.FnLevelName" = some f) (hfn : Tryd.pinned.checked.prog.funcs[f]? = some fn) :
    false = Tryd.pinned.checked.prog.looks [] ∧ ∀ (j : Nat) t, fn.params[j]? = some t → Tryd.pinned.checked.prog.wantsStandIn t = false := by
  obtain rfl : f = 3 := Option.some.inj ((show Tryd.prog.funcNamed "loglines/laws.FnLevelName" = some 3 by kernel_rfl).symm.trans hf) |>.symm
  obtain rfl : fn = Tryd.f3 := (Option.some.inj (Tryd.func3.symm.trans hfn)).symm
  refine ⟨by kernel_rfl, fun j t ht => ?_⟩
  rw [Tryd.params3] at ht
  obtain rfl : t = 3 := by simpa using Array.mem_of_getElem? ht
  exact (show Tryd.prog.wantsStandIn 3 = false by kernel_rfl)

/-- THE CARD. -/
theorem card : Rows.FnLevelNameCardSaid :=
  Claim7.holds_tied_plain_at .later [] _ _ _ _ said (fun _ h => by cases h) (by kernel_rfl) (fun _ h => by cases h) fnLevelName_row_tie rfl ⟨rfl, rfl⟩ (by kernel_rfl) rfl plain (by kernel_rfl)
#print axioms card
end Go.Proofs.YtoemokickdkmeaaDoor.fnLevelName
