/-
  What an argument of type impl.Log reads as: its two lists, and how much their weight is by the reading's bulk. Conditions: none.
-/
import Derived.Test.YtcllhgajdcemiaaGreatDoorRows
import Derived.Test.YtcllhgajdcemiaaGreatDoorPl
import Derived.ProofKit
import Derived.ChangeArms
import Derived.Deep.Slices
import Derived.Lib.SmallJoins
namespace Go.Proofs.YtcllhgajdcemiaaGreatDoor.jb
open Go.RowKit Go.Proofs.YtcllhgajdcemiaaGreatDoorW.PrintWords Go.Proofs.YtcllhgajdcemiaaGreatDoor.PFnJSONBack
set_option linter.unusedVariables false
set_option linter.unusedSimpArgs false
set_option maxRecDepth 100000
theorem oc9 : Tryz.prog.cellsOf 9 = 1 := by kernel_rfl
theorem oc4 : Tryz.prog.cellsOf 4 = 1 := by kernel_rfl
theorem oc23 : Tryz.prog.cellsOf 23 = 1 := by kernel_rfl
theorem oc22 : Tryz.prog.cellsOf 22 = 1 := by kernel_rfl
theorem oc25 : Tryz.prog.cellsOf 25 = 4 := by kernel_rfl
theorem oc34 : Tryz.prog.cellsOf 34 = 4 := by kernel_rfl
theorem oc36 : Tryz.prog.cellsOf 36 = 3 := by kernel_rfl
theorem row_of {α : Type} (d : Kd α) {W : World} {a : Addr} {len : Nat} {l : List α} (hl : l.length = len) (hm : len ≤ maxLen)
    (h : ∀ i x, l[i]? = some x → ∃ cs, W.cells? 0 (a.add (i * d.sz)) d.sz = some cs ∧ d.K W x cs) : Kd.C d W (some a) len l := by
  refine ⟨hl, by unfold maxLen at hm; omega, fun _ => ⟨a, rfl, fun j p hj => ?_⟩⟩
  obtain ⟨cs, h1, h2⟩ := h j p hj
  obtain ⟨_, h4, h5⟩ := World.cells?_some h1
  refine ⟨cs, h4, h2, fun i u hu => ?_⟩
  have hi : i < d.sz := by
    have := (List.getElem?_eq_some_iff.1 hu).1
    omega
  have := h5 i hi
  rw [Deep.add_add, hu] at this
  exact this
theorem row_nil {α : Type} (d : Kd α) (W : World) (A : Option Addr) : Kd.C d W A 0 [] := ⟨rfl, by omega, fun h => absurd h (by omega)⟩
section
variable {H : Type} {enc : TypeId × Value → H}
theorem collect {α β : Type} (wt : α → Nat) (tot : List α → Nat) (h0 : tot [] = 0) (hc : ∀ a l, tot (a :: l) ≤ wt a + tot l) :
    ∀ (es : List (DataW H × β)) (p : Nat → α → Prop), (∀ i e, es[i]? = some e → ∃ x, p i x ∧ wt x ≤ 20 * Rows.uptoBulk e.1) →
      ∃ l : List α, l.length = es.length ∧ (∀ i x, l[i]? = some x → p i x) ∧ tot l ≤ 20 * Rows.uptoBulkAll (es.map (·.1))
  | [], p, h => ⟨[], rfl, fun i x hx => by simp at hx, by simp [h0]⟩
  | e :: es, p, h => by
    obtain ⟨x, hp, hx⟩ := h 0 e rfl
    obtain ⟨l, h1, h2, h3⟩ := collect wt tot h0 hc es (fun i => p (i + 1)) (fun i e' he => h (i + 1) e' (by simpa using he))
    refine ⟨x :: l, by simp [h1], fun i y hy => ?_, ?_⟩
    · cases i with
      | zero =>
        simp at hy
        subst hy
        exact hp
      | succ i => exact h2 i y (by simpa using hy)
    · have := hc x l
      simp only [List.map_cons, Rows.uptoBulkAll]
      omega
def P23 (W : World) (cs : List Value) (x : DataW H × List MemPlace) : Prop :=
  ∃ A c, ∃ l : List S34, cs = [.slice A l.length c] ∧ l.length ≤ c ∧ Kd.C k34 W A l.length l ∧ wtL l + 20 ≤ 20 * Rows.uptoBulk x.1
def P22 (W : World) (cs : List Value) (x : DataW H × List MemPlace) : Prop :=
  ∃ A c, ∃ l : List S36, cs = [.slice A l.length c] ∧ l.length ≤ c ∧ Kd.C k36 W A l.length l ∧ wtS l + 20 ≤ 20 * Rows.uptoBulk x.1
theorem read34 {W : World} {n : Nat} {cs : List Value} {x : DataW H × List MemPlace} (ih : ∀ m, m < n → ∀ (cs : List Value) (x : DataW H × List MemPlace), DataW.trod enc Tryz.prog W 0 (fun _ => true) true m 23 cs = some x → P23 W cs x)
    (h : DataW.trod enc Tryz.prog W 0 (fun _ => true) true n 34 cs = some x) : ∃ a : S34, k34.K W a cs ∧ wtA a ≤ 20 * Rows.uptoBulk x.1 := by
  obtain ⟨xs, m, rfl, rfl, hl, hlen, hf⟩ := DataW.trod_struct Tryz.underlying34 h
  rw [oc34] at hl
  match cs, hl, xs, hlen, hf with
  | [c0, c1, c2, c3], _, [y0, y1, y2, y3], _, hf =>
    have h0 : DataW.trod enc Tryz.prog W 0 (fun _ => true) true m 9 (([c0, c1, c2, c3].drop 0).take (Tryz.prog.cellsOf 9)) = some y0 := hf 0 _ rfl
    have h1 : DataW.trod enc Tryz.prog W 0 (fun _ => true) true m 9 (([c0, c1, c2, c3].drop 1).take (Tryz.prog.cellsOf 9)) = some y1 := hf 1 _ rfl
    have h2 : DataW.trod enc Tryz.prog W 0 (fun _ => true) true m 4 (([c0, c1, c2, c3].drop 2).take (Tryz.prog.cellsOf 4)) = some y2 := hf 2 _ rfl
    have h3 : DataW.trod enc Tryz.prog W 0 (fun _ => true) true m 23 (([c0, c1, c2, c3].drop 3).take (Tryz.prog.cellsOf 23)) = some y3 := hf 3 _ rfl
    rw [oc9] at h0 h1
    rw [oc4] at h2
    rw [oc23] at h3
    obtain ⟨k, e0, rfl, _⟩ := DataW.trod_string Tryz.underlying9 h0
    obtain ⟨v, e1, rfl, _⟩ := DataW.trod_string Tryz.underlying9 h1
    obtain ⟨g, e2, rfl⟩ := DataW.trod_bool Tryz.underlying4 h2
    obtain ⟨A, c, l, e3, hle, hC, hw⟩ := ih m (Nat.lt_succ_self m) _ _ h3
    obtain rfl : c0 = .string k := by simpa using e0
    obtain rfl : c1 = .string v := by simpa using e1
    obtain rfl : c2 = .bool g := by simpa using e2
    obtain rfl : c3 = .slice A l.length c := by simpa using e3
    refine ⟨⟨k, v, g, l⟩, k34_mk W ⟨k, v, g, l⟩ hle hC, ?_⟩
    have a1 := Lib.size_eq k
    have a2 := Lib.size_eq v
    simp only [wtA, Rows.uptoBulk, Rows.uptoBulkAll, List.map_cons, List.map_nil]
    omega
theorem read23 {W : World} : ∀ (fuel : Nat) (cs : List Value) (x : DataW H × List MemPlace), DataW.trod enc Tryz.prog W 0 (fun _ => true) true fuel 23 cs = some x → P23 W cs x := by
  intro fuel
  induction fuel using Nat.strongRecOn with
  | _ fuel ih =>
    intro cs x h
    rcases DataW.trod_slice Tryz.underlying23 h with ⟨rfl, rfl⟩ | ⟨a, len, cap, elems, rest, n, rfl, rfl, rfl, hb, hl, hm, hlen, hel, _, _⟩
    · exact ⟨none, 0, [], rfl, Nat.le_refl _, row_nil _ _ _, by simp [wtL, Rows.uptoBulk]⟩
    · obtain ⟨l, h1, h2, h3⟩ := collect (H := H) wtA wtL (by simp [wtL]) (fun a l => by rw [wtL_cons]; exact Nat.le_refl _) elems
        (fun i (b : S34) => ∃ cs, W.cells? 0 (a.add (i * k34.sz)) k34.sz = some cs ∧ k34.K W b cs) (fun i e he => by
          have hi : i < len := by
            have := (List.getElem?_eq_some_iff.1 he).1
            omega
          have g1 := hel i hi
          rw [he, oc34] at g1
          obtain ⟨cs', g2, g3⟩ := Option.bind_eq_some_iff.1 g1
          obtain ⟨b, hK, hw⟩ := read34 (fun m hm => ih m (by omega)) g3
          exact ⟨b, ⟨cs', g2, hK⟩, hw⟩)
      have hll : l.length = len := by omega
      refine ⟨some a, cap, l, by rw [hll], by omega, row_of k34 rfl (by omega) h2, ?_⟩
      simp only [Rows.uptoBulk]
      omega
theorem read36 {W : World} {n : Nat} {cs : List Value} {x : DataW H × List MemPlace} (h : DataW.trod enc Tryz.prog W 0 (fun _ => true) true n 36 cs = some x) : ∃ a : S36, k36.K W a cs ∧ a.f0.size + 20 + wtL a.f1 ≤ 20 * Rows.uptoBulk x.1 := by
  obtain ⟨xs, m, rfl, rfl, hl, hlen, hf⟩ := DataW.trod_struct Tryz.underlying36 h
  rw [oc36] at hl
  match cs, hl, xs, hlen, hf with
  | [c0, c1, c2], _, [y0, y1, y2], _, hf =>
    have h0 : DataW.trod enc Tryz.prog W 0 (fun _ => true) true m 9 (([c0, c1, c2].drop 0).take (Tryz.prog.cellsOf 9)) = some y0 := hf 0 _ rfl
    have h1 : DataW.trod enc Tryz.prog W 0 (fun _ => true) true m 23 (([c0, c1, c2].drop 1).take (Tryz.prog.cellsOf 23)) = some y1 := hf 1 _ rfl
    have h2 : DataW.trod enc Tryz.prog W 0 (fun _ => true) true m 4 (([c0, c1, c2].drop 2).take (Tryz.prog.cellsOf 4)) = some y2 := hf 2 _ rfl
    rw [oc9] at h0
    rw [oc23] at h1
    rw [oc4] at h2
    obtain ⟨k, e0, rfl, _⟩ := DataW.trod_string Tryz.underlying9 h0
    obtain ⟨A, c, l, e1, hle, hC, hw⟩ := read23 _ _ _ h1
    obtain ⟨g, e2, rfl⟩ := DataW.trod_bool Tryz.underlying4 h2
    obtain rfl : c0 = .string k := by simpa using e0
    obtain rfl : c1 = .slice A l.length c := by simpa using e1
    obtain rfl : c2 = .bool g := by simpa using e2
    refine ⟨⟨k, l, g⟩, k36_mk W ⟨k, l, g⟩ hle hC, ?_⟩
    have a1 := Lib.size_eq k
    simp only [Rows.uptoBulk, Rows.uptoBulkAll, List.map_cons, List.map_nil]
    omega
theorem read22 {W : World} (fuel : Nat) (cs : List Value) (x : DataW H × List MemPlace) (h : DataW.trod enc Tryz.prog W 0 (fun _ => true) true fuel 22 cs = some x) : P22 W cs x := by
  rcases DataW.trod_slice Tryz.underlying22 h with ⟨rfl, rfl⟩ | ⟨a, len, cap, elems, rest, n, rfl, rfl, rfl, hb, hl, hm, hlen, hel, _, _⟩
  · exact ⟨none, 0, [], rfl, Nat.le_refl _, row_nil _ _ _, by simp [wtS, Rows.uptoBulk]⟩
  · obtain ⟨l, h1, h2, h3⟩ := collect (H := H) (fun a : S36 => a.f0.size + 20 + wtL a.f1) wtS (by simp [wtS]) (fun a l => by rw [wtS]; exact Nat.le_refl _) elems
      (fun i (b : S36) => ∃ cs, W.cells? 0 (a.add (i * k36.sz)) k36.sz = some cs ∧ k36.K W b cs) (fun i e he => by
        have hi : i < len := by
          have := (List.getElem?_eq_some_iff.1 he).1
          omega
        have g1 := hel i hi
        rw [he, oc36] at g1
        obtain ⟨cs', g2, g3⟩ := Option.bind_eq_some_iff.1 g1
        obtain ⟨b, hK, hw⟩ := read36 g3
        exact ⟨b, ⟨cs', g2, hK⟩, hw⟩)
    have hll : l.length = len := by omega
    refine ⟨some a, cap, l, by rw [hll], by omega, row_of k36 rfl (by omega) h2, ?_⟩
    simp only [Rows.uptoBulk]
    omega
/-- AN ARGUMENT OF TYPE impl.Log. -/
theorem open_log {W : World} {r : Reach} {b0 : Nat} {v : Value} {d : DataW H} {p : List MemPlace} (hv : Value.okWide Tryz.prog W r b0 25 v) (h : DataW.Trod enc Tryz.prog W 0 (fun _ => true) true 25 v d p) :
    ∃ (n : Int) (msg : ByteArray) (SA AA : Option Addr) (sc ac : Nat) (steps : List S36) (l : List S34), v = .agg #[.int .i64 n, .string msg, .slice SA steps.length sc, .slice AA l.length ac] ∧
      Kd.C k36 W SA steps.length steps ∧ steps.length ≤ sc ∧ Kd.C k34 W AA l.length l ∧ l.length ≤ ac ∧ msg.size + (wtS steps + wtL l) ≤ 20 * Rows.uptoBulk d := by
  obtain ⟨v0, v1, v2, v3, y0, y1, y2, y3, n, rfl, rfl, _, h0, h1, h2, h3⟩ := Joins.open_agg4 Tryz.underlying25 (by kernel_rfl) oc25 hv h
  obtain ⟨k, e0, rfl, _⟩ := DataW.trod_int Tryz.underlying3 h0
  obtain ⟨msg, e1, rfl, _⟩ := DataW.trod_string Tryz.underlying9 h1
  obtain ⟨SA, sc, steps, e2, hs1, hs2, hs3⟩ := read22 _ _ _ h2
  obtain ⟨AA, ac, l, e3, ha1, ha2, ha3⟩ := read23 _ _ _ h3
  obtain rfl : v0 = .int .i64 k := by simpa using e0
  obtain rfl : v1 = .string msg := by simpa using e1
  obtain rfl : v2 = .slice SA steps.length sc := by simpa using e2
  obtain rfl : v3 = .slice AA l.length ac := by simpa using e3
  refine ⟨k, msg, SA, AA, sc, ac, steps, l, rfl, hs2, hs1, ha2, ha1, ?_⟩
  have a1 := Lib.size_eq msg
  simp only [Rows.uptoBulk, Rows.uptoBulkAll]
  omega
end
end Go.Proofs.YtcllhgajdcemiaaGreatDoor.jb
