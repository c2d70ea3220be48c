/-
  Level.String and spec.Level at the thirteen levels from -4 to 8: both give the same name. No condition.
-/
import Derived.Test.YtcbmphomacbmmaaDoorQuote
import Derived.Laws.BytesArg
namespace Go.Proofs.YtcbmphomacbmmaaDoor
open Go.RowKit

def okBb (c : UInt8) : Bool := decide (33 ≤ c.toNat) && (decide (c.toNat < 127) && (decide (c.toNat ≠ 34) && (decide (c.toNat ≠ 61) && decide (c.toNat ≠ 92))))
theorem okS_of (s : ByteArray) (h0 : 0 < s.size) (h1 : s.size ≤ 1000) (h : s.data.toList.all okBb = true) : okS s := by
  refine ⟨h0, h1, fun k hk => ?_⟩
  have hm : s[k] ∈ s.data.toList := Array.mem_toList_iff.2 (Array.getElem_mem (xs := s.data) hk)
  have := List.all_eq_true.1 h _ hm
  simp only [okBb, Bool.and_eq_true, decide_eq_true_eq] at this
  exact this

/-- the name of a level, in bytes. -/
def lvl (n : Int) : ByteArray :=
  if n = -4 then ⟨#[68, 69, 66, 85, 71]⟩ else
  if n = -3 then ⟨#[68, 69, 66, 85, 71, 43, 49]⟩ else
  if n = -2 then ⟨#[68, 69, 66, 85, 71, 43, 50]⟩ else
  if n = -1 then ⟨#[68, 69, 66, 85, 71, 43, 51]⟩ else
  if n = 0 then ⟨#[73, 78, 70, 79]⟩ else
  if n = 1 then ⟨#[73, 78, 70, 79, 43, 49]⟩ else
  if n = 2 then ⟨#[73, 78, 70, 79, 43, 50]⟩ else
  if n = 3 then ⟨#[73, 78, 70, 79, 43, 51]⟩ else
  if n = 4 then ⟨#[87, 65, 82, 78]⟩ else
  if n = 5 then ⟨#[87, 65, 82, 78, 43, 49]⟩ else
  if n = 6 then ⟨#[87, 65, 82, 78, 43, 50]⟩ else
  if n = 7 then ⟨#[87, 65, 82, 78, 43, 51]⟩ else
  if n = 8 then ⟨#[69, 82, 82, 79, 82]⟩ else
  ⟨#[]⟩

/-! string([]byte{c}): the one digit behind the plus sign. -/
theorem conv49 (w : World) : (convert 36 9 (.slice (some ⟨w.heap.size, 0, none⟩) 1 1)).run Tryd.prog (w.alloc (.cells #[.int .u8 49] 5)) = .ok (.string ⟨#[49]⟩) (w.alloc (.cells #[.int .u8 49] 5)) := by
  rw [run_convert_bytes_arg (P := Tryd.prog) _ 36 5 Tryd.underlying36 Tryd.underlying5 w.heap.size 0 1 1 [49] rfl (fun i hi => by
    obtain rfl : i = 0 := by omega
    simp) 9 Tryd.underlying9]
  rfl
theorem conv50 (w : World) : (convert 36 9 (.slice (some ⟨w.heap.size, 0, none⟩) 1 1)).run Tryd.prog (w.alloc (.cells #[.int .u8 50] 5)) = .ok (.string ⟨#[50]⟩) (w.alloc (.cells #[.int .u8 50] 5)) := by
  rw [run_convert_bytes_arg (P := Tryd.prog) _ 36 5 Tryd.underlying36 Tryd.underlying5 w.heap.size 0 1 1 [50] rfl (fun i hi => by
    obtain rfl : i = 0 := by omega
    simp) 9 Tryd.underlying9]
  rfl
theorem conv51 (w : World) : (convert 36 9 (.slice (some ⟨w.heap.size, 0, none⟩) 1 1)).run Tryd.prog (w.alloc (.cells #[.int .u8 51] 5)) = .ok (.string ⟨#[51]⟩) (w.alloc (.cells #[.int .u8 51] 5)) := by
  rw [run_convert_bytes_arg (P := Tryd.prog) _ 36 5 Tryd.underlying36 Tryd.underlying5 w.heap.size 0 1 1 [51] rfl (fun i hi => by
    obtain rfl : i = 0 := by omega
    simp) 9 Tryd.underlying9]
  rfl

theorem string_m4 (w : World) : Calls Tryd.prog 36 #[.int .i64 (-4)] w fun e w' => e = .returned (.string (lvl (-4))) ∧ w = w' := by
  have hmf : ∀ (fn : Fn) (first cap : Array Value) (w : World), (Instr.makeFunc fn first cap).run Tryd.prog w = .ok (.func fn first cap) w := fun _ _ _ _ => rfl
  go_enter Tryd.func36, Tryd.ntmps36
  go_wp2
  go_ret
  exact ⟨by kernel_rfl, rfl⟩
theorem level_m4 (w : World) : Calls Tryd.prog 6 #[.int .i64 (-4)] w fun e w' => e = .returned (.string (lvl (-4))) ∧ Below w.heap.size w w' := by
  go_enter Tryd.func6, Tryd.ntmps6
  go_wp2
  go_ret
  exact ⟨by kernel_rfl, by repeat (first | exact Below.refl _ _ | refine Below.alloc ?_ (by simp) _ | refine Below.drew ?_)⟩

theorem string_m3 (w : World) : Calls Tryd.prog 36 #[.int .i64 (-3)] w fun e w' => e = .returned (.string (lvl (-3))) ∧ w = w' := by
  have hmf : ∀ (fn : Fn) (first cap : Array Value) (w : World), (Instr.makeFunc fn first cap).run Tryd.prog w = .ok (.func fn first cap) w := fun _ _ _ _ => rfl
  go_enter Tryd.func36, Tryd.ntmps36
  go_wp2
  go_ret
  exact ⟨by kernel_rfl, rfl⟩
theorem level_m3 (w : World) : Calls Tryd.prog 6 #[.int .i64 (-3)] w fun e w' => e = .returned (.string (lvl (-3))) ∧ Below w.heap.size w w' := by
  have hcv := conv49
  go_enter Tryd.func6, Tryd.ntmps6
  go_wp2
  go_ret
  exact ⟨by kernel_rfl, by repeat (first | exact Below.refl _ _ | refine Below.alloc ?_ (by simp) _ | refine Below.drew ?_)⟩

theorem string_m2 (w : World) : Calls Tryd.prog 36 #[.int .i64 (-2)] w fun e w' => e = .returned (.string (lvl (-2))) ∧ w = w' := by
  have hmf : ∀ (fn : Fn) (first cap : Array Value) (w : World), (Instr.makeFunc fn first cap).run Tryd.prog w = .ok (.func fn first cap) w := fun _ _ _ _ => rfl
  go_enter Tryd.func36, Tryd.ntmps36
  go_wp2
  go_ret
  exact ⟨by kernel_rfl, rfl⟩
theorem level_m2 (w : World) : Calls Tryd.prog 6 #[.int .i64 (-2)] w fun e w' => e = .returned (.string (lvl (-2))) ∧ Below w.heap.size w w' := by
  have hcv := conv50
  go_enter Tryd.func6, Tryd.ntmps6
  go_wp2
  go_ret
  exact ⟨by kernel_rfl, by repeat (first | exact Below.refl _ _ | refine Below.alloc ?_ (by simp) _ | refine Below.drew ?_)⟩

theorem string_m1 (w : World) : Calls Tryd.prog 36 #[.int .i64 (-1)] w fun e w' => e = .returned (.string (lvl (-1))) ∧ w = w' := by
  have hmf : ∀ (fn : Fn) (first cap : Array Value) (w : World), (Instr.makeFunc fn first cap).run Tryd.prog w = .ok (.func fn first cap) w := fun _ _ _ _ => rfl
  go_enter Tryd.func36, Tryd.ntmps36
  go_wp2
  go_ret
  exact ⟨by kernel_rfl, rfl⟩
theorem level_m1 (w : World) : Calls Tryd.prog 6 #[.int .i64 (-1)] w fun e w' => e = .returned (.string (lvl (-1))) ∧ Below w.heap.size w w' := by
  have hcv := conv51
  go_enter Tryd.func6, Tryd.ntmps6
  go_wp2
  go_ret
  exact ⟨by kernel_rfl, by repeat (first | exact Below.refl _ _ | refine Below.alloc ?_ (by simp) _ | refine Below.drew ?_)⟩

theorem string_0 (w : World) : Calls Tryd.prog 36 #[.int .i64 0] w fun e w' => e = .returned (.string (lvl 0)) ∧ w = w' := by
  have hmf : ∀ (fn : Fn) (first cap : Array Value) (w : World), (Instr.makeFunc fn first cap).run Tryd.prog w = .ok (.func fn first cap) w := fun _ _ _ _ => rfl
  go_enter Tryd.func36, Tryd.ntmps36
  go_wp2
  go_ret
  exact ⟨by kernel_rfl, rfl⟩
theorem level_0 (w : World) : Calls Tryd.prog 6 #[.int .i64 0] w fun e w' => e = .returned (.string (lvl 0)) ∧ Below w.heap.size w w' := by
  go_enter Tryd.func6, Tryd.ntmps6
  go_wp2
  go_ret
  exact ⟨by kernel_rfl, by repeat (first | exact Below.refl _ _ | refine Below.alloc ?_ (by simp) _ | refine Below.drew ?_)⟩

theorem string_1 (w : World) : Calls Tryd.prog 36 #[.int .i64 1] w fun e w' => e = .returned (.string (lvl 1)) ∧ w = w' := by
  have hmf : ∀ (fn : Fn) (first cap : Array Value) (w : World), (Instr.makeFunc fn first cap).run Tryd.prog w = .ok (.func fn first cap) w := fun _ _ _ _ => rfl
  go_enter Tryd.func36, Tryd.ntmps36
  go_wp2
  go_ret
  exact ⟨by kernel_rfl, rfl⟩
theorem level_1 (w : World) : Calls Tryd.prog 6 #[.int .i64 1] w fun e w' => e = .returned (.string (lvl 1)) ∧ Below w.heap.size w w' := by
  have hcv := conv49
  go_enter Tryd.func6, Tryd.ntmps6
  go_wp2
  go_ret
  exact ⟨by kernel_rfl, by repeat (first | exact Below.refl _ _ | refine Below.alloc ?_ (by simp) _ | refine Below.drew ?_)⟩

theorem string_2 (w : World) : Calls Tryd.prog 36 #[.int .i64 2] w fun e w' => e = .returned (.string (lvl 2)) ∧ w = w' := by
  have hmf : ∀ (fn : Fn) (first cap : Array Value) (w : World), (Instr.makeFunc fn first cap).run Tryd.prog w = .ok (.func fn first cap) w := fun _ _ _ _ => rfl
  go_enter Tryd.func36, Tryd.ntmps36
  go_wp2
  go_ret
  exact ⟨by kernel_rfl, rfl⟩
theorem level_2 (w : World) : Calls Tryd.prog 6 #[.int .i64 2] w fun e w' => e = .returned (.string (lvl 2)) ∧ Below w.heap.size w w' := by
  have hcv := conv50
  go_enter Tryd.func6, Tryd.ntmps6
  go_wp2
  go_ret
  exact ⟨by kernel_rfl, by repeat (first | exact Below.refl _ _ | refine Below.alloc ?_ (by simp) _ | refine Below.drew ?_)⟩

theorem string_3 (w : World) : Calls Tryd.prog 36 #[.int .i64 3] w fun e w' => e = .returned (.string (lvl 3)) ∧ w = w' := by
  have hmf : ∀ (fn : Fn) (first cap : Array Value) (w : World), (Instr.makeFunc fn first cap).run Tryd.prog w = .ok (.func fn first cap) w := fun _ _ _ _ => rfl
  go_enter Tryd.func36, Tryd.ntmps36
  go_wp2
  go_ret
  exact ⟨by kernel_rfl, rfl⟩
theorem level_3 (w : World) : Calls Tryd.prog 6 #[.int .i64 3] w fun e w' => e = .returned (.string (lvl 3)) ∧ Below w.heap.size w w' := by
  have hcv := conv51
  go_enter Tryd.func6, Tryd.ntmps6
  go_wp2
  go_ret
  exact ⟨by kernel_rfl, by repeat (first | exact Below.refl _ _ | refine Below.alloc ?_ (by simp) _ | refine Below.drew ?_)⟩

theorem string_4 (w : World) : Calls Tryd.prog 36 #[.int .i64 4] w fun e w' => e = .returned (.string (lvl 4)) ∧ w = w' := by
  have hmf : ∀ (fn : Fn) (first cap : Array Value) (w : World), (Instr.makeFunc fn first cap).run Tryd.prog w = .ok (.func fn first cap) w := fun _ _ _ _ => rfl
  go_enter Tryd.func36, Tryd.ntmps36
  go_wp2
  go_ret
  exact ⟨by kernel_rfl, rfl⟩
theorem level_4 (w : World) : Calls Tryd.prog 6 #[.int .i64 4] w fun e w' => e = .returned (.string (lvl 4)) ∧ Below w.heap.size w w' := by
  go_enter Tryd.func6, Tryd.ntmps6
  go_wp2
  go_ret
  exact ⟨by kernel_rfl, by repeat (first | exact Below.refl _ _ | refine Below.alloc ?_ (by simp) _ | refine Below.drew ?_)⟩

theorem string_5 (w : World) : Calls Tryd.prog 36 #[.int .i64 5] w fun e w' => e = .returned (.string (lvl 5)) ∧ w = w' := by
  have hmf : ∀ (fn : Fn) (first cap : Array Value) (w : World), (Instr.makeFunc fn first cap).run Tryd.prog w = .ok (.func fn first cap) w := fun _ _ _ _ => rfl
  go_enter Tryd.func36, Tryd.ntmps36
  go_wp2
  go_ret
  exact ⟨by kernel_rfl, rfl⟩
theorem level_5 (w : World) : Calls Tryd.prog 6 #[.int .i64 5] w fun e w' => e = .returned (.string (lvl 5)) ∧ Below w.heap.size w w' := by
  have hcv := conv49
  go_enter Tryd.func6, Tryd.ntmps6
  go_wp2
  go_ret
  exact ⟨by kernel_rfl, by repeat (first | exact Below.refl _ _ | refine Below.alloc ?_ (by simp) _ | refine Below.drew ?_)⟩

theorem string_6 (w : World) : Calls Tryd.prog 36 #[.int .i64 6] w fun e w' => e = .returned (.string (lvl 6)) ∧ w = w' := by
  have hmf : ∀ (fn : Fn) (first cap : Array Value) (w : World), (Instr.makeFunc fn first cap).run Tryd.prog w = .ok (.func fn first cap) w := fun _ _ _ _ => rfl
  go_enter Tryd.func36, Tryd.ntmps36
  go_wp2
  go_ret
  exact ⟨by kernel_rfl, rfl⟩
theorem level_6 (w : World) : Calls Tryd.prog 6 #[.int .i64 6] w fun e w' => e = .returned (.string (lvl 6)) ∧ Below w.heap.size w w' := by
  have hcv := conv50
  go_enter Tryd.func6, Tryd.ntmps6
  go_wp2
  go_ret
  exact ⟨by kernel_rfl, by repeat (first | exact Below.refl _ _ | refine Below.alloc ?_ (by simp) _ | refine Below.drew ?_)⟩

theorem string_7 (w : World) : Calls Tryd.prog 36 #[.int .i64 7] w fun e w' => e = .returned (.string (lvl 7)) ∧ w = w' := by
  have hmf : ∀ (fn : Fn) (first cap : Array Value) (w : World), (Instr.makeFunc fn first cap).run Tryd.prog w = .ok (.func fn first cap) w := fun _ _ _ _ => rfl
  go_enter Tryd.func36, Tryd.ntmps36
  go_wp2
  go_ret
  exact ⟨by kernel_rfl, rfl⟩
theorem level_7 (w : World) : Calls Tryd.prog 6 #[.int .i64 7] w fun e w' => e = .returned (.string (lvl 7)) ∧ Below w.heap.size w w' := by
  have hcv := conv51
  go_enter Tryd.func6, Tryd.ntmps6
  go_wp2
  go_ret
  exact ⟨by kernel_rfl, by repeat (first | exact Below.refl _ _ | refine Below.alloc ?_ (by simp) _ | refine Below.drew ?_)⟩

theorem string_8 (w : World) : Calls Tryd.prog 36 #[.int .i64 8] w fun e w' => e = .returned (.string (lvl 8)) ∧ w = w' := by
  have hmf : ∀ (fn : Fn) (first cap : Array Value) (w : World), (Instr.makeFunc fn first cap).run Tryd.prog w = .ok (.func fn first cap) w := fun _ _ _ _ => rfl
  go_enter Tryd.func36, Tryd.ntmps36
  go_wp2
  go_ret
  exact ⟨by kernel_rfl, rfl⟩
theorem level_8 (w : World) : Calls Tryd.prog 6 #[.int .i64 8] w fun e w' => e = .returned (.string (lvl 8)) ∧ Below w.heap.size w w' := by
  go_enter Tryd.func6, Tryd.ntmps6
  go_wp2
  go_ret
  exact ⟨by kernel_rfl, by repeat (first | exact Below.refl _ _ | refine Below.alloc ?_ (by simp) _ | refine Below.drew ?_)⟩

theorem cases13 (n : Int) (h0 : -4 ≤ n) (h1 : n ≤ 8) : n = -4 ∨ n = -3 ∨ n = -2 ∨ n = -1 ∨ n = 0 ∨ n = 1 ∨ n = 2 ∨ n = 3 ∨ n = 4 ∨ n = 5 ∨ n = 6 ∨ n = 7 ∨ n = 8 := by omega
theorem string_any (n : Int) (h0 : -4 ≤ n) (h1 : n ≤ 8) (w : World) : Calls Tryd.prog 36 #[.int .i64 n] w fun e w' => e = .returned (.string (lvl n)) ∧ w = w' := by
  rcases cases13 n h0 h1 with rfl | rfl | rfl | rfl | rfl | rfl | rfl | rfl | rfl | rfl | rfl | rfl | rfl
  · exact string_m4 w
  · exact string_m3 w
  · exact string_m2 w
  · exact string_m1 w
  · exact string_0 w
  · exact string_1 w
  · exact string_2 w
  · exact string_3 w
  · exact string_4 w
  · exact string_5 w
  · exact string_6 w
  · exact string_7 w
  · exact string_8 w
theorem level_any (n : Int) (h0 : -4 ≤ n) (h1 : n ≤ 8) (w : World) : Calls Tryd.prog 6 #[.int .i64 n] w fun e w' => e = .returned (.string (lvl n)) ∧ Below w.heap.size w w' := by
  rcases cases13 n h0 h1 with rfl | rfl | rfl | rfl | rfl | rfl | rfl | rfl | rfl | rfl | rfl | rfl | rfl
  · exact level_m4 w
  · exact level_m3 w
  · exact level_m2 w
  · exact level_m1 w
  · exact level_0 w
  · exact level_1 w
  · exact level_2 w
  · exact level_3 w
  · exact level_4 w
  · exact level_5 w
  · exact level_6 w
  · exact level_7 w
  · exact level_8 w
theorem lvl_ok (n : Int) (h0 : -4 ≤ n) (h1 : n ≤ 8) : okS (lvl n) := by
  rcases cases13 n h0 h1 with rfl | rfl | rfl | rfl | rfl | rfl | rfl | rfl | rfl | rfl | rfl | rfl | rfl
  all_goals exact okS_of _ (by decide) (by decide) (by decide)
end Go.Proofs.YtcbmphomacbmmaaDoor
