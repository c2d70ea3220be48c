/-
  Snest: spec.Nested: the attributes as if there were no steps (nestedL). Conditions: the tree is not too large.
  Sbare: spec.Bare answers at every tree (bareL). Conditions: the lists are not too long.
  Sfits: laws.fits and spec.Members. Conditions: the trees weigh less than 2^39.
  Smemb: spec.Members: the members of a line. Conditions: a level from -4 to 8; the trees weigh less than 2^39.
  Scoded: spec.coded at the code points that the JSON handler escapes; spec.hex at their digits; spec.Body, spec.quote: every string as it is written is read back.
-/
import Derived.Test.YtcllhgajdcemiaaGreatDoorPl
import Derived.Test.YtcllhgajdcemiaaGreatDoorGs
import Derived.Test.YtcllhgajdcemiaaGreatDoorFa
import Derived.Test.YtcllhgajdcemiaaGreatDoorWk
import Derived.Lib.SlBytesRow
namespace Go.Proofs.YtcllhgajdcemiaaGreatDoor.jb
open Go.RowKit Go.Proofs.YtcllhgajdcemiaaGreatDoorW.PrintWords Go.Proofs.YtcllhgajdcemiaaGreatDoorW.PrintLast Go.Proofs.YtcllhgajdcemiaaGreatDoorW.PrintMore
open Go.Proofs.YtcllhgajdcemiaaGreatDoor.PFnJSONBack
open Go.Proofs.YtcllhgajdcemiaaGreatDoor.wk (Blk)
set_option linter.unusedVariables false
set_option linter.unusedSimpArgs false
theorem heap34 : Kd.Heap k34 := Kd.heap_fix (fun d hd => Kd.heap_iso _ (Kd.heap_pair Kd.heap_string (Kd.heap_pair Kd.heap_string (Kd.heap_pair Kd.heap_bool (Kd.heap_slice 34 hd)))))
theorem heap36 : Kd.Heap k36 := Kd.heap_iso _ (Kd.heap_pair Kd.heap_string (Kd.heap_pair (Kd.heap_slice 34 heap34) Kd.heap_bool))
theorem at36 {w : World} {A : Option Addr} {n : Nat} {xs : List S36} (h : Kd.C k36 w A n xs) (i : Nat) (hi : i < n) (hn : n = xs.length) :
    ∃ ad A1 c1, A = some ad ∧ w.cell? (ad.add (i * 3)) = some (.string (xs[i]'(by omega)).f0) ∧ w.cell? ⟨(ad.add (i * 3)).block, (ad.add (i * 3)).off + 1, none⟩ = some (.slice A1 (xs[i]'(by omega)).f1.length c1) ∧ w.cell? ⟨(ad.add (i * 3)).block, (ad.add (i * 3)).off + 2, none⟩ = some (.bool (xs[i]'(by omega)).f2) ∧ (xs[i]'(by omega)).f1.length ≤ c1 ∧ k34.C w A1 (xs[i]'(by omega)).f1.length (xs[i]'(by omega)).f1 := by
  have h1 := at_T36 h (i : Int) (by omega) (by omega)
  rw [rd36 xs i (by omega)] at h1
  simpa using h1
theorem C_one34 {w : World} {g : Nat} {x : S34} {cs : List Value} (hb : Blk w g 34 cs.toArray) (hK : k34.K w x cs) : Kd.C k34 w (some ⟨g, 0, none⟩) 1 [x] := by
  refine ⟨rfl, by omega, fun _ => ⟨⟨g, 0, none⟩, rfl, fun j p hp => ?_⟩⟩
  match j, hp with
  | 0, hp =>
    simp at hp
    subst hp
    refine ⟨cs, k34.K_len hK, hK, fun i u hu => ?_⟩
    rw [Addr.add_lit]
    have := hb.cell (0 + (0 * k34.sz + i))
    rw [this]
    simpa using hu
theorem wt_nested : ∀ (steps : List S36) (r : List S34), wtL (nestedL steps r) ≤ wtS steps + wtL r
  | [], r => by simp [nestedL, wtS]
  | s :: t, r => by
    have ih := wt_nested t r
    obtain ⟨g, l, f⟩ := s
    have h0 : (⟨#[]⟩ : ByteArray).size = 0 := rfl
    simp only [nestedL, wtS]
    split
    · split
      · omega
      · simp only [wtL, wtA]
        omega
    · rw [wtL_append]
      omega
def NestCon (steps : List S36) : Prop := ∀ (w : World) (SA AA : Option Addr) (sc ac : Nat) (r : List S34), Kd.C k36 w SA steps.length steps → steps.length ≤ sc → Kd.C k34 w AA r.length r → r.length ≤ ac → wtS steps + wtL r < 2 ^ 40 →
  Calls Tryz.prog 14 #[.slice SA steps.length sc, .slice AA r.length ac] w fun e w' => ∃ A c, e = .returned (.slice A (nestedL steps r).length c) ∧ (nestedL steps r).length ≤ c ∧ Kd.C k34 w' A (nestedL steps r).length (nestedL steps r) ∧ Below w.heap.size w w'
set_option maxRecDepth 100000 in
theorem nest_nil : NestCon [] := by
  intro w SA AA sc ac r hS hsc hA hac hw
  have HA := Lib.hid (And.intro hA hac)
  clear hA hac hS
  go_enter Tryz.func14, Tryz.ntmps14
  go_wp2_with fail
  go_ret
  exact ⟨AA, ac, rfl, HA.out.2, HA.out.1, Below.refl _ _⟩
set_option maxRecDepth 100000 in
set_option maxHeartbeats 2000000 in
theorem nest_cons (s : S36) (t : List S36) (ih : NestCon t) : NestCon (s :: t) := by
  intro w SA AA sc ac r hS hsc hA hac hw
  obtain ⟨key, l, f⟩ := s
  obtain ⟨ad, A1, c1, e, hx0, hx1, hx2, hl1, hC1⟩ := at36 hS 0 (by simp) rfl
  cases e
  have HS := Lib.hid (And.intro hS (And.intro hsc (And.intro hA (And.intro hac hw))))
  have HC := Lib.hid (And.intro hl1 hC1)
  clear hS hsc hA hac hw hl1 hC1
  simp only [List.getElem_cons_zero] at hx0 hx1 hx2 HC
  have e0 : ad.add (0 * 3) = ad := by
    obtain ⟨b, o, t⟩ := ad
    simp [Addr.add]
  rw [e0] at hx0 hx1 hx2
  have hne : ((t.length : Int) + 1 == 0) = false := beq_eq_false_iff_ne.2 (by omega)
  --TAIL
  have hba : Below w.heap.size w (w.alloc (.cells #[.string key, .slice A1 l.length c1, .bool f] 36)) := (Below.refl _ _).alloc (Nat.le_refl _) _
  by_cases hs1 : sc = 1
  · subst hs1
    have hD : Kd.C k36 w (some ad) t.length t := by
      have := Kd.C_drop (m := 1) HS.out.1 (by simp) HS.out.2.1
      rw [if_pos rfl] at this
      exact this
    go_enter Tryz.func14, Tryz.ntmps14
    go_wp2_with fail
    refine (ih _ _ AA _ ac r (Kd.C_below hD hba) (by have h : t.length + 1 ≤ 1 := HS.out.2.1; omega) (Kd.C_below HS.out.2.2.1 hba) HS.out.2.2.2.1 (by have := HS.out.2.2.2.2; rw [wtS] at this; omega)).mono ?_
    rintro e w2 ⟨A2, c2, rfl, hc2, hC2, hb2⟩
    have hX := (Blk.new w 36 #[.string key, .slice A1 l.length c1, .bool f]).below hb2 (by simp)
    have hbw := hba.trans (hb2.mono hba.size)
    have x0 := hX.cell 0
    have x1 := hX.cell 1
    have x2 := hX.cell 2
    have H2 := Lib.hid (And.intro hc2 (And.intro hC2 (And.intro hbw (Kd.C_below HC.out.2 hbw))))
    clear hc2 hC2 hb2 hX hbw hx0 hx1 hx2 hD hba
    cases f with
    | true =>
      by_cases hk : key.size = 0
      · have hk0 : key.toList.isEmpty = true := List.isEmpty_iff.2 ((size0 key).2 hk)
        go_wp2_with fail
        go_ret
        have e : nestedL (⟨key, l, true⟩ :: t) r = nestedL t r := by simp [nestedL, hk]
        rw [e]
        exact ⟨A2, c2, rfl, H2.out.1, H2.out.2.1, H2.out.2.2.1⟩
      · have hk0 : key.toList.isEmpty = false := by
          cases h : key.toList.isEmpty with
          | false => rfl
          | true => exact absurd ((size0 key).1 (List.isEmpty_iff.1 h)) hk
        have e : nestedL (⟨key, l, true⟩ :: t) r = [⟨key, ⟨#[]⟩, true, nestedL t r⟩] := by simp [nestedL, hk]
        have HE := Lib.hid e
        clear e
        have hba2 : Below w2.heap.size w2 (w2.alloc (.cells #[.string key, .string ⟨#[]⟩, .bool true, .slice A2 (nestedL t r).length c2] 34)) := (Below.refl _ _).alloc (Nat.le_refl _) _
        have hone := C_one34 (Blk.new w2 34 #[.string key, .string ⟨#[]⟩, .bool true, .slice A2 (nestedL t r).length c2]) (k34_mk _ ⟨key, ⟨#[]⟩, true, nestedL t r⟩ H2.out.1 (Kd.C_below H2.out.2.1 hba2))
        have HZ := Lib.hid (And.intro hone (H2.out.2.2.1.trans (hba2.mono H2.out.2.2.1.size)))
        clear hone hba2
        go_wp2_with fail
        go_ret
        rw [HE.out]
        exact ⟨some ⟨w2.heap.size, 0, none⟩, 1, rfl, Nat.le_refl _, HZ.out.1, HZ.out.2⟩
    | false =>
      have e : nestedL (⟨key, l, false⟩ :: t) r = l ++ nestedL t r := by simp [nestedL]
      have HE := Lib.hid e
      clear e
      have hL1 := wtL_length l
      have hL2 := wtL_length (nestedL t r)
      have hL3 := wt_nested t r
      have hL4 : key.size + 20 + wtL l + wtS t + wtL r < 2 ^ 40 := by
        have := HS.out.2.2.2.2
        rw [wtS] at this
        exact this
      have hl64 : (l.length + (nestedL t r).length) * 64 ≤ 140737488355328 := by omega
      have HL := Lib.hid hl64
      clear hL1 hL2 hL3 hL4 hl64
      go_wp2_with (first
        | (at_builtin; refine Kd.N_append_rows k34 (w0 := w2) w2.heap.size rfl (.const (.slice none 0 0)) (.tmp 23) 23 34 (.agg #[(.string ⟨#[]⟩), (.string ⟨#[]⟩), (.bool false), (.slice none 0 0)]) 64 rfl Tryz.underlying23 info34 rfl (by decide) (by omega) (.slice none 0 0) [] l A1 l.length c1 (fun _ => True) (fun k => k < w2.heap.size) rfl rfl (Kd.N_nil _ _ _ _ _) (Kd.C_F heap34 H2.out.2.2.2) (fun k _ => ⟨trivial, by simp [Value.ownBlock]⟩) (fun _ _ => trivial) (Below.refl _ _) (Nat.le_refl _) (by have := HL.out; simp; omega) ?_; intro v3 w3 hN3 hB3 hg3 hat3)
        | (at_builtin; refine Kd.N_append_rows k34 (w0 := w2) w2.heap.size rfl (.tmp 24) (.tmp 25) 23 34 (.agg #[(.string ⟨#[]⟩), (.string ⟨#[]⟩), (.bool false), (.slice none 0 0)]) 64 rfl Tryz.underlying23 info34 rfl (by decide) (by omega) v3 l (nestedL t r) A2 (nestedL t r).length c2 (fun _ => True) (fun k => k < w2.heap.size) rfl rfl (by simpa using hN3) (Kd.F_below (Kd.C_F heap34 H2.out.2.1) hB3) (fun k hk => ⟨trivial, fun e => by have := Kd.N_base hN3 k e.symm; omega⟩) (fun _ _ => trivial) hB3 hB3.size (by have := HL.out; omega) ?_; intro v5 w5 hN5 hB5 hg5 hat5))
      obtain ⟨A5, c5, rfl, hc5, hC5⟩ := Kd.N_reads hN5
      go_ret
      rw [HE.out]
      exact ⟨A5, c5, rfl, hc5, hC5, H2.out.2.2.1.trans (hB5.mono H2.out.2.2.1.size)⟩
  · have hD : Kd.C k36 w (some ⟨ad.block, ad.off + 3, none⟩) t.length t := by
      have := Kd.C_drop (m := 1) HS.out.1 (by simp) HS.out.2.1
      rw [if_neg hs1] at this
      exact this
    have hs2 : ¬ (sc - 1 = 0) := by have h : t.length + 1 ≤ sc := HS.out.2.1; omega
    go_enter Tryz.func14, Tryz.ntmps14
    go_wp2_with fail
    refine (ih _ _ AA _ ac r (Kd.C_below hD hba) (by have h : t.length + 1 ≤ sc := HS.out.2.1; omega) (Kd.C_below HS.out.2.2.1 hba) HS.out.2.2.2.1 (by have := HS.out.2.2.2.2; rw [wtS] at this; omega)).mono ?_
    rintro e w2 ⟨A2, c2, rfl, hc2, hC2, hb2⟩
    have hX := (Blk.new w 36 #[.string key, .slice A1 l.length c1, .bool f]).below hb2 (by simp)
    have hbw := hba.trans (hb2.mono hba.size)
    have x0 := hX.cell 0
    have x1 := hX.cell 1
    have x2 := hX.cell 2
    have H2 := Lib.hid (And.intro hc2 (And.intro hC2 (And.intro hbw (Kd.C_below HC.out.2 hbw))))
    clear hc2 hC2 hb2 hX hbw hx0 hx1 hx2 hD hba
    cases f with
    | true =>
      by_cases hk : key.size = 0
      · have hk0 : key.toList.isEmpty = true := List.isEmpty_iff.2 ((size0 key).2 hk)
        go_wp2_with fail
        go_ret
        have e : nestedL (⟨key, l, true⟩ :: t) r = nestedL t r := by simp [nestedL, hk]
        rw [e]
        exact ⟨A2, c2, rfl, H2.out.1, H2.out.2.1, H2.out.2.2.1⟩
      · have hk0 : key.toList.isEmpty = false := by
          cases h : key.toList.isEmpty with
          | false => rfl
          | true => exact absurd ((size0 key).1 (List.isEmpty_iff.1 h)) hk
        have e : nestedL (⟨key, l, true⟩ :: t) r = [⟨key, ⟨#[]⟩, true, nestedL t r⟩] := by simp [nestedL, hk]
        have HE := Lib.hid e
        clear e
        have hba2 : Below w2.heap.size w2 (w2.alloc (.cells #[.string key, .string ⟨#[]⟩, .bool true, .slice A2 (nestedL t r).length c2] 34)) := (Below.refl _ _).alloc (Nat.le_refl _) _
        have hone := C_one34 (Blk.new w2 34 #[.string key, .string ⟨#[]⟩, .bool true, .slice A2 (nestedL t r).length c2]) (k34_mk _ ⟨key, ⟨#[]⟩, true, nestedL t r⟩ H2.out.1 (Kd.C_below H2.out.2.1 hba2))
        have HZ := Lib.hid (And.intro hone (H2.out.2.2.1.trans (hba2.mono H2.out.2.2.1.size)))
        clear hone hba2
        go_wp2_with fail
        go_ret
        rw [HE.out]
        exact ⟨some ⟨w2.heap.size, 0, none⟩, 1, rfl, Nat.le_refl _, HZ.out.1, HZ.out.2⟩
    | false =>
      have e : nestedL (⟨key, l, false⟩ :: t) r = l ++ nestedL t r := by simp [nestedL]
      have HE := Lib.hid e
      clear e
      have hL1 := wtL_length l
      have hL2 := wtL_length (nestedL t r)
      have hL3 := wt_nested t r
      have hL4 : key.size + 20 + wtL l + wtS t + wtL r < 2 ^ 40 := by
        have := HS.out.2.2.2.2
        rw [wtS] at this
        exact this
      have hl64 : (l.length + (nestedL t r).length) * 64 ≤ 140737488355328 := by omega
      have HL := Lib.hid hl64
      clear hL1 hL2 hL3 hL4 hl64
      go_wp2_with (first
        | (at_builtin; refine Kd.N_append_rows k34 (w0 := w2) w2.heap.size rfl (.const (.slice none 0 0)) (.tmp 23) 23 34 (.agg #[(.string ⟨#[]⟩), (.string ⟨#[]⟩), (.bool false), (.slice none 0 0)]) 64 rfl Tryz.underlying23 info34 rfl (by decide) (by omega) (.slice none 0 0) [] l A1 l.length c1 (fun _ => True) (fun k => k < w2.heap.size) rfl rfl (Kd.N_nil _ _ _ _ _) (Kd.C_F heap34 H2.out.2.2.2) (fun k _ => ⟨trivial, by simp [Value.ownBlock]⟩) (fun _ _ => trivial) (Below.refl _ _) (Nat.le_refl _) (by have := HL.out; simp; omega) ?_; intro v3 w3 hN3 hB3 hg3 hat3)
        | (at_builtin; refine Kd.N_append_rows k34 (w0 := w2) w2.heap.size rfl (.tmp 24) (.tmp 25) 23 34 (.agg #[(.string ⟨#[]⟩), (.string ⟨#[]⟩), (.bool false), (.slice none 0 0)]) 64 rfl Tryz.underlying23 info34 rfl (by decide) (by omega) v3 l (nestedL t r) A2 (nestedL t r).length c2 (fun _ => True) (fun k => k < w2.heap.size) rfl rfl (by simpa using hN3) (Kd.F_below (Kd.C_F heap34 H2.out.2.1) hB3) (fun k hk => ⟨trivial, fun e => by have := Kd.N_base hN3 k e.symm; omega⟩) (fun _ _ => trivial) hB3 hB3.size (by have := HL.out; omega) ?_; intro v5 w5 hN5 hB5 hg5 hat5))
      obtain ⟨A5, c5, rfl, hc5, hC5⟩ := Kd.N_reads hN5
      go_ret
      rw [HE.out]
      exact ⟨A5, c5, rfl, hc5, hC5, H2.out.2.2.1.trans (hB5.mono H2.out.2.2.1.size)⟩
theorem nested14 : ∀ steps : List S36, NestCon steps
  | [] => nest_nil
  | s :: t => nest_cons s t (nested14 t)
end Go.Proofs.YtcllhgajdcemiaaGreatDoor.jb

namespace Go.Proofs.YtcllhgajdcemiaaGreatDoor.jb
open Go.RowKit Go.Proofs.YtcllhgajdcemiaaGreatDoorW.PrintWords Go.Proofs.YtcllhgajdcemiaaGreatDoorW.PrintLast Go.Proofs.YtcllhgajdcemiaaGreatDoorW.PrintMore
open Go.Proofs.YtcllhgajdcemiaaGreatDoor.PFnJSONBack
open Go.Proofs.YtcllhgajdcemiaaGreatDoor.wk (Blk)
set_option linter.unusedVariables false
set_option linter.unusedSimpArgs false
theorem at34 {w : World} {A : Option Addr} {xs : List S34} (h : Kd.C k34 w A xs.length xs) (i : Nat) (hi : i < xs.length) :
    ∃ ad A3 c3, A = some ad ∧ w.cell? (ad.add (i * 4)) = some (.string xs[i].f0) ∧ w.cell? ⟨(ad.add (i * 4)).block, (ad.add (i * 4)).off + 1, none⟩ = some (.string xs[i].f1) ∧ w.cell? ⟨(ad.add (i * 4)).block, (ad.add (i * 4)).off + 2, none⟩ = some (.bool xs[i].f2) ∧ w.cell? ⟨(ad.add (i * 4)).block, (ad.add (i * 4)).off + 3, none⟩ = some (.slice A3 xs[i].f3.length c3) ∧ xs[i].f3.length ≤ c3 ∧ k34.C w A3 xs[i].f3.length xs[i].f3 := by
  have h1 := at_T34 h (i : Int) (by omega) (by omega)
  rw [rd34 xs i hi] at h1
  simpa using h1
mutual
def bareA : S34 → Bool
  | ⟨k, v, g, l⟩ => if g then bareL l else (k.toList.isEmpty && v.toList.isEmpty)
def bareL : List S34 → Bool
  | [] => false
  | a :: l => bareA a || bareL l
end
theorem bareL_take : ∀ (l : List S34) (i : Nat) (hi : i < l.length), bareL (l.take i) = false → bareA l[i] = false → bareL (l.take (i + 1)) = false
  | [], i, hi, _, _ => by simp at hi
  | a :: l, 0, hi, _, h => by simpa [bareL] using h
  | a :: l, i + 1, hi, h1, h2 => by
    simp only [List.take_succ_cons, bareL, Bool.or_eq_false_iff] at h1 ⊢
    exact ⟨h1.1, bareL_take l i (by simpa using hi) h1.2 (by simpa using h2)⟩
theorem bareL_at : ∀ (l : List S34) (i : Nat) (hi : i < l.length), bareA l[i] = true → bareL l = true
  | [], i, hi, _ => by simp at hi
  | a :: l, 0, hi, h => by rw [bareL]; simp only [List.getElem_cons_zero] at h; rw [h]; rfl
  | a :: l, i + 1, hi, h => by
    rw [bareL, bareL_at l i (by simpa using hi) (by simpa using h)]
    simp
def BareCon (l : List S34) : Prop := ∀ (w : World) (A : Option Addr) (c : Nat), Kd.C k34 w A l.length l → l.length ≤ c →
  Calls Tryz.prog 16 #[.slice A l.length c] w fun e w' => e = .returned (.bool (bareL l)) ∧ Below w.heap.size w w'
set_option maxRecDepth 100000 in
set_option maxHeartbeats 2000000 in
theorem bare_step (l : List S34) (hlen : l.length < 2 ^ 40) (ih : ∀ a, a ∈ l → BareCon a.f3) : BareCon l := by
  intro w A c hC hc
  have HC := Lib.hid (And.intro hC hc)
  clear hC hc
  go_enter Tryz.func16, Tryz.ntmps16
  go_wp2_with fail
  go_loopg [7] (l.length) (fun j v7 wr => ∃ i : Nat, v7 = .int .i64 i ∧ Aside (i ≤ l.length ∧ j = l.length - i ∧ bareL (l.take i) = false ∧ Below w.heap.size w wr))
  case atStart => exact ⟨0, rfl, Nat.zero_le _, rfl, by simp [bareL], Below.refl _ _⟩
  case round =>
    obtain ⟨i, rfl, HI⟩ := hrel
    by_cases hi : i < l.length
    · have hi0 : decide ((i : Int) < (l.length : Int)) = true := decide_eq_true (by omega)
      obtain ⟨ad, A3, c3, e, hx0, hx1, hx2, hx3, hl3, hC3⟩ := at34 (Kd.C_below HC.out.1 HI.out.2.2.2) i hi
      cases e
      have hcon := ih l[i] (List.getElem_mem hi)
      have hba : Below wr.heap.size wr (wr.alloc (.cells #[.string l[i].f0, .string l[i].f1, .bool l[i].f2, .slice A3 l[i].f3.length c3] 34)) := (Below.refl _ _).alloc (Nat.le_refl _) _
      have hBw := HI.out.2.2.2.trans (hba.mono HI.out.2.2.2.size)
      have hga : ∃ a, l[i] = a := ⟨_, rfl⟩
      obtain ⟨a, ha⟩ := hga
      have HW := Lib.hid (And.intro hBw (And.intro HI.out.2.1 HI.out.2.2.1))
      have HA := Lib.hid ha
      have HE := Lib.hid (And.intro hl3 (Kd.C_below hC3 hba))
      have HN := Lib.hid hcon
      clear hcon hba hBw HI hl3 hC3
      rw [ha] at hx0 hx1 hx2 hx3 HE HN HW
      clear ha
      obtain ⟨key, v, g, m⟩ := a
      simp only at hx0 hx1 hx2 hx3 HE HN
      cases g with
      | true =>
        go_wp2_with fail
        refine (HN.out _ A3 c3 HE.out.2 HE.out.1).mono ?_
        rintro e w2 ⟨rfl, hb2⟩
        have HB := Lib.hid (HW.out.1.trans (hb2.mono HW.out.1.size))
        have HL := Lib.hid hb2
        have hX := (Blk.new wr 34 #[.string key, .string v, .bool true, .slice A3 m.length c3]).below hb2 (by simp)
        have x2 := hX.cell 2
        clear hb2 hX hx0 hx1 hx2 hx3
        cases hm : bareL m with
        | true =>
          go_wp2_with fail
          go_ret
          exact ⟨by rw [bareL_at l i hi (by rw [HA.out]; simpa [bareA] using hm)]; rfl, HB.out⟩
        | false =>
          go_wp2_with fail
          go_roundg (l.length - (i + 1))
          case measure => have := HW.out.2.1; omega
          case rel =>
            refine ⟨i + 1, ?_, hi, rfl, ?_, HB.out⟩
            · first
              | (simp; done)
              | (rw [IntWalk.wrap64_in _ ⟨by omega, by omega⟩]; simp)
            · exact bareL_take l i hi HW.out.2.2 (by rw [HA.out]; simpa [bareA] using hm)
      | false =>
        cases hk : key.toList.isEmpty with
        | false =>
          go_wp2_with fail
          go_roundg (l.length - (i + 1))
          case measure => have := HW.out.2.1; omega
          case rel =>
            refine ⟨i + 1, ?_, hi, rfl, ?_, HW.out.1⟩
            · first
              | (simp; done)
              | (rw [IntWalk.wrap64_in _ ⟨by omega, by omega⟩]; simp)
            · exact bareL_take l i hi HW.out.2.2 (by rw [HA.out]; simp [bareA, hk])
        | true =>
          cases hv : v.toList.isEmpty with
          | false =>
            go_wp2_with fail
            go_roundg (l.length - (i + 1))
            case measure => have := HW.out.2.1; omega
            case rel =>
              refine ⟨i + 1, ?_, hi, rfl, ?_, HW.out.1⟩
              · first
                | (simp; done)
                | (rw [IntWalk.wrap64_in _ ⟨by omega, by omega⟩]; simp)
              · exact bareL_take l i hi HW.out.2.2 (by rw [HA.out]; simp [bareA, hv])
          | true =>
            go_wp2_with fail
            go_ret
            exact ⟨by rw [bareL_at l i hi (by rw [HA.out]; simp [bareA, hk, hv])]; rfl, HW.out.1⟩
    · have hi0 : decide ((i : Int) < (l.length : Int)) = false := decide_eq_false (by omega)
      have hil : i = l.length := by have := HI.out.1; omega
      subst hil
      have HZ := Lib.hid HI.out
      clear HI
      go_wp2_with fail
      go_ret
      have := HZ.out.2.2.1
      rw [List.take_length] at this
      rw [this]
      exact ⟨rfl, HZ.out.2.2.2⟩
theorem wtL_mem : ∀ (l : List S34) (a : S34), a ∈ l → 20 + wtL a.f3 ≤ wtL l
  | [], a, h => by simp at h
  | b :: l, a, h => by
    rw [wtL_cons]
    rcases List.mem_cons.1 h with e | h
    · rw [e, wtA_eq]; omega
    · have := wtL_mem l a h; omega
theorem bare16 : ∀ (n : Nat) (l : List S34), wtL l ≤ n → wtL l < 2 ^ 40 → BareCon l := by
  intro n
  induction n with
  | zero =>
    intro l h hw
    have h1 := wtL_length l
    refine bare_step l (by omega) (fun a ha => ?_)
    have h0 : l = [] := List.eq_nil_of_length_eq_zero (by omega)
    rw [h0] at ha
    simp at ha
  | succ n ih =>
    intro l h hw
    have h1 := wtL_length l
    refine bare_step l (by omega) (fun a ha => ?_)
    have := wtL_mem l a ha
    exact ih a.f3 (by omega) (by omega)
end Go.Proofs.YtcllhgajdcemiaaGreatDoor.jb

namespace Go.Proofs.YtcllhgajdcemiaaGreatDoor.jb
open Go.RowKit Go.Proofs.YtcllhgajdcemiaaGreatDoorW.PrintWords Go.Proofs.YtcllhgajdcemiaaGreatDoorW.PrintLast Go.Proofs.YtcllhgajdcemiaaGreatDoorW.PrintMore
open Go.Proofs.YtcllhgajdcemiaaGreatDoor.PFnJSONBack
open Go.Proofs.YtcllhgajdcemiaaGreatDoor.wk (Blk lvl)
set_option linter.unusedVariables false
set_option linter.unusedSimpArgs false
theorem drawn_below {w w' : World} (h : Drawn0 w w') : Below w.heap.size w w' := by
  obtain ⟨m, rfl⟩ := h
  exact pw_below_drewN (Below.refl _ _) m
def inR (n : Int) : Bool := decide (-4 ≤ n) && decide (n ≤ 8)
theorem inRange15 (w : World) (n : Int) : Calls Tryz.prog 15 #[.int .i64 n] w fun e w' => e = .returned (.bool (inR n)) ∧ Below w.heap.size w w' := by
  refine (spec_InRange.calls n (inR n) w ?_).mono fun e w' h => ⟨h.1, drawn_below h.2⟩
  unfold spec_InRange.f inR
  by_cases h : n ≥ -4
  · rw [if_pos h]
    have : decide (-4 ≤ n) = true := decide_eq_true h
    rw [this]
    rfl
  · rw [if_neg h]
    have : decide (-4 ≤ n) = false := decide_eq_false h
    rw [this]
    rfl
def fitsB (n : Int) (L : List S34) : Bool := inR n && !bareL L && plainL L
set_option maxRecDepth 100000 in
set_option maxHeartbeats 2000000 in
theorem fits6 (w : World) (n : Int) (msg : ByteArray) (steps : List S36) (r : List S34) (SA AA : Option Addr) (sc ac : Nat)
    (hS : Kd.C k36 w SA steps.length steps) (hsc : steps.length ≤ sc) (hA : Kd.C k34 w AA r.length r) (hac : r.length ≤ ac) (hw : wtS steps + wtL r < 2 ^ 40) :
    Calls Tryz.prog 6 #[.agg #[.int .i64 n, .string msg, .slice SA steps.length sc, .slice AA r.length ac]] w fun e w' => e = .returned (.bool (fitsB n (nestedL steps r))) ∧ Below w.heap.size w w' := by
  have hba : Below w.heap.size w (w.alloc (.cells #[.int .i64 n, .string msg, .slice SA steps.length sc, .slice AA r.length ac] 25)) := (Below.refl _ _).alloc (Nat.le_refl _) _
  have k14 := Lib.hid (nested14 steps (w.alloc (.cells #[.int .i64 n, .string msg, .slice SA steps.length sc, .slice AA r.length ac] 25)) SA AA sc ac r (Kd.C_below hS hba) hsc (Kd.C_below hA hba) hac hw)
  have HB := Lib.hid hba
  have HW := Lib.hid (And.intro hw (wt_nested steps r))
  have HX := Lib.hid (Blk.new w 25 #[.int .i64 n, .string msg, .slice SA steps.length sc, .slice AA r.length ac])
  clear hS hsc hA hac hw hba
  go_enter Tryz.func6, Tryz.ntmps6
  go_wp2_with fail
  refine k14.out.mono ?_
  rintro e w2 ⟨A2, c2, rfl, hc2, hC2, hb2⟩
  have hX := HX.out.below hb2 HX.out.lt
  have x0 := hX.cell 0
  have H2 := Lib.hid (And.intro hc2 (And.intro hC2 (HB.out.trans (hb2.mono HB.out.size))))
  generalize hN : nestedL steps r = N at *
  clear hc2 hC2 hb2 hX k14
  go_wp2_with fail
  refine (inRange15 w2 n).mono ?_
  rintro e w3 ⟨rfl, hb3⟩
  have hN40 : wtL N < 2 ^ 40 := by have := HW.out; omega
  have H3 := Lib.hid (And.intro (Kd.C_below H2.out.2.1 hb3) (H2.out.2.2.trans (hb3.mono H2.out.2.2.size)))
  clear hb3 x0
  cases hr : inR n with
  | false =>
    go_wp2_with fail
    go_ret
    have : fitsB n N = false := by unfold fitsB; rw [hr]; rfl
    rw [hN, this]
    exact ⟨rfl, H3.out.2⟩
  | true =>
    go_wp2_with fail
    refine (bare16 (wtL N) N (Nat.le_refl _) hN40 w3 A2 c2 H3.out.1 H2.out.1).mono ?_
    rintro e w4 ⟨rfl, hb4⟩
    have H4 := Lib.hid (And.intro (Kd.C_below H3.out.1 hb4) (H3.out.2.trans (hb4.mono H3.out.2.size)))
    clear hb4
    cases hb : bareL N with
    | true =>
      go_wp2_with fail
      go_ret
      have : fitsB n N = false := by unfold fitsB; rw [hr, hb]; rfl
      rw [hN, this]
      exact ⟨rfl, H4.out.2⟩
    | false =>
      go_wp2_with fail
      refine (spec_Plain.calls (wtL N + 2) A2 c2 N (plainL N) w4 H4.out.1 H2.out.1 ((plain_f _).1 N (Nat.le_refl _) hN40)).mono ?_
      rintro e w5 ⟨rfl, hb5⟩
      have H5 := Lib.hid (H4.out.2.trans (hb5.mono H4.out.2.size))
      clear hb5
      cases hp : plainL N with
      | true =>
        go_wp2_with fail
        go_ret
        have : fitsB n N = true := by unfold fitsB; rw [hr, hb, hp]; rfl
        rw [hN, this]
        exact ⟨rfl, H5.out⟩
      | false =>
        go_wp2_with fail
        go_ret
        have : fitsB n N = false := by unfold fitsB; rw [hr, hb, hp]; rfl
        rw [hN, this]
        exact ⟨rfl, H5.out⟩
end Go.Proofs.YtcllhgajdcemiaaGreatDoor.jb

namespace Go.Proofs.YtcllhgajdcemiaaGreatDoor.jb
open Go.RowKit Go.Proofs.YtcllhgajdcemiaaGreatDoorW.PrintWords Go.Proofs.YtcllhgajdcemiaaGreatDoorW.PrintLast Go.Proofs.YtcllhgajdcemiaaGreatDoorW.PrintMore
open Go.Proofs.YtcllhgajdcemiaaGreatDoor.PFnJSONBack
open Go.Proofs.YtcllhgajdcemiaaGreatDoor.wk (Blk lvl)
set_option linter.unusedVariables false
set_option linter.unusedSimpArgs false
theorem utf_len : ∀ l : List S34, (utfL l).length = l.length
  | [] => by simp [utfL]
  | a :: l => by simp [utfL, utf_len l]
/-- a literal of two texts. -/
theorem N_two {w : World} {g base : Nat} {k1 v1 k2 v2 : ByteArray} (hb : Blk w g 34 #[.string k1, .string v1, .bool false, .slice none 0 0, .string k2, .string v2, .bool false, .slice none 0 0]) (hg : base ≤ g) :
    Kd.N k34 34 w base (fun _ => True) (.slice (some ⟨g, 0, none⟩) 2 2) [⟨k1, v1, false, []⟩, ⟨k2, v2, false, []⟩] := by
  have hK : ∀ k v : ByteArray, Kd.FK k34 w (fun _ => False) (⟨k, v, false, []⟩ : S34) [.string k, .string v, .bool false, .slice none 0 0] := fun k v => k34_mkF w _ ⟨k, v, false, []⟩ (Nat.le_refl _) (Kd.F_nil _ _ _)
  refine ⟨fun _ _ => trivial, [[.string k1, .string v1, .bool false, .slice none 0 0], [.string k2, .string v2, .bool false, .slice none 0 0]], rfl, ⟨fun k hk => hk.symm, [.string k1, .string v1, .bool false, .slice none 0 0, .string k2, .string v2, .bool false, .slice none 0 0], ?_, ?_⟩, ?_⟩
  · exact ⟨rfl, .inr ⟨g, 2, _, rfl, hg, hb, Nat.le_refl _, by unfold maxLen; omega, rfl, rfl⟩⟩
  · have h1 : Reps ((Kd.raw k34.sz).M w base (fun k => some k = (Value.slice (some ⟨g, 0, none⟩) 2 2).ownBlock ∧ some k ≠ (Value.slice (some ⟨g, 0, none⟩) 2 2).ownBlock)) 4 [[.string k1, .string v1, .bool false, .slice none 0 0]] ([] ++ [.string k1, .string v1, .bool false, .slice none 0 0]) :=
      Reps.snoc (Reps.none _ _) (Kd.FK_raw (hK k1 v1)) rfl
    exact Reps.snoc h1 (Kd.FK_raw (hK k2 v2)) rfl
  · intro j x c hx hc
    match j, hx, hc with
    | 0, hx, hc =>
      simp at hx hc
      subst hx
      subst hc
      exact Kd.FK_mono (hK k1 v1) (fun _ h => h.elim)
    | 1, hx, hc =>
      simp at hx hc
      subst hx
      subst hc
      exact Kd.FK_mono (hK k2 v2) (fun _ h => h.elim)
/-- what spec.Members answers. -/
def membsU (n : Int) (msg : ByteArray) (N : List S34) : List S34 := [⟨keyLevelB, lvl n, false, []⟩, ⟨keyMsgB, cohB msg, false, []⟩] ++ utfL (shownL N)
set_option maxRecDepth 100000 in
set_option maxHeartbeats 4000000 in
theorem members10 (w : World) (n : Int) (hn0 : -4 ≤ n) (hn1 : n ≤ 8) (msg : ByteArray) (steps : List S36) (r : List S34) (SA AA : Option Addr) (sc ac : Nat)
    (hS : Kd.C k36 w SA steps.length steps) (hsc : steps.length ≤ sc) (hA : Kd.C k34 w AA r.length r) (hac : r.length ≤ ac) (hw : wtS steps + wtL r < 2 ^ 40) (hm : msg.size < 2 ^ 40) :
    Calls Tryz.prog 10 #[.agg #[.int .i64 n, .string msg, .slice SA steps.length sc, .slice AA r.length ac]] w fun e w' => ∃ A c, e = .returned (.slice A (membsU n msg (nestedL steps r)).length c) ∧ (membsU n msg (nestedL steps r)).length ≤ c ∧ Kd.C k34 w' A (membsU n msg (nestedL steps r)).length (membsU n msg (nestedL steps r)) ∧ Below w.heap.size w w' := by
  have hba : Below w.heap.size w (w.alloc (.cells #[.int .i64 n, .string msg, .slice SA steps.length sc, .slice AA r.length ac] 25)) := (Below.refl _ _).alloc (Nat.le_refl _) _
  have HB := Lib.hid hba
  have HS := Lib.hid (And.intro (Kd.C_below hS hba) (And.intro hsc (And.intro (Kd.C_below hA hba) hac)))
  have HW := Lib.hid (And.intro hw (And.intro (wt_nested steps r) hm))
  have HX := Lib.hid (Blk.new w 25 #[.int .i64 n, .string msg, .slice SA steps.length sc, .slice AA r.length ac])
  clear hS hsc hA hac hw hm hba
  go_enter Tryz.func10, Tryz.ntmps10
  go_wp2_with fail
  generalize hlb : w.heap.size = lb at *
  generalize w.alloc (.cells #[.int .i64 n, .string msg, .slice SA steps.length sc, .slice AA r.length ac] 25) = W at *
  have hX := HX.out
  have y0 := hX.cell 0
  have y1 := hX.cell 1
  have y2 := hX.cell 2
  have y3 := hX.cell 3
  clear hX
  have hN40 : wtL (nestedL steps r) < 2 ^ 40 := by have := HW.out; omega
  have hS40 : wtL (shownL (nestedL steps r)) < 2 ^ 40 := by have := wt_shownL (nestedL steps r); omega
  have H40 := Lib.hid (And.intro hN40 hS40)
  clear hN40 hS40
  go_region_held3 (fun w' => w'.cell? ⟨lb, 0, none⟩ = some (.int .i64 n) ∧ w'.cell? ⟨lb, 1, none⟩ = some (.string msg) ∧ w'.cell? ⟨lb, 2, none⟩ = some (.slice SA steps.length sc) ∧ w'.cell? ⟨lb, 3, none⟩ = some (.slice AA r.length ac))
    (go_keep)
    ((first
      | (go_at_call 21
         refine (wk.level_any n hn0 hn1 W.drew).mono ?_
         rintro e w3 ⟨rfl, hb3⟩
         have hX3 := HX.out.drew.below hb3 HX.out.lt
         have a0 := hX3.cell 0
         have a1 := hX3.cell 1
         have a2 := hX3.cell 2
         have a3 := hX3.cell 3
         have H3 := Lib.hid (And.intro hX3 ((Below.refl W.heap.size W).drew.trans hb3))
         clear hX3 hb3 y0 y1 y2 y3)
      | (go_at_call 13
         refine (spec_Coerced.calls (msg.size + 9) msg (cohB msg) w3 (coerced_f _ msg (Nat.le_refl _) (by have := HW.out.2.2; omega))).mono ?_
         rintro e w4 ⟨rfl, hd4⟩
         have hb4 := drawn_below hd4
         have hX4 := H3.out.1.below hb4 H3.out.1.lt
         have d0 := hX4.cell 0
         have d1 := hX4.cell 1
         have d2 := hX4.cell 2
         have d3 := hX4.cell 3
         have hlt4 := hX4.lt
         have H4 := Lib.hid (And.intro hX4 (H3.out.2.trans (hb4.mono H3.out.2.size)))
         have HL4 := Lib.hid (show Below w4.heap.size w4 (w4.alloc (.cells #[.string ⟨#[108, 101, 118, 101, 108]⟩, .string (lvl n), .bool false, .slice none 0 0, .string ⟨#[109, 115, 103]⟩, .string (cohB msg), .bool false, .slice none 0 0] 34)) from (Below.refl _ _).alloc (Nat.le_refl _) _)
         clear hX4 hd4 hb4 a0 a1 a2 a3)
      | (go_at_call 14
         refine (nested14 steps (w4.alloc (.cells #[.string ⟨#[108, 101, 118, 101, 108]⟩, .string (lvl n), .bool false, .slice none 0 0, .string ⟨#[109, 115, 103]⟩, .string (cohB msg), .bool false, .slice none 0 0] 34)) SA AA sc ac r (Kd.C_below (Kd.C_below HS.out.1 H4.out.2) HL4.out) HS.out.2.1 (Kd.C_below (Kd.C_below HS.out.2.2.1 H4.out.2) HL4.out) HS.out.2.2.2 HW.out.1).mono ?_
         rintro e w5 ⟨A5, c5, rfl, hc5, hC5, hb5⟩
         have hX5 := (H4.out.1.below HL4.out H4.out.1.lt).below hb5 (Nat.lt_of_lt_of_le H4.out.1.lt HL4.out.size)
         have e0 := hX5.cell 0
         have e1 := hX5.cell 1
         have e2 := hX5.cell 2
         have e3 := hX5.cell 3
         have hB5 := H4.out.2.trans ((HL4.out.trans (hb5.mono HL4.out.size)).mono H4.out.2.size)
         have hlt5 := hX5.lt
         have hG5 := (Blk.new w4 34 #[.string ⟨#[108, 101, 118, 101, 108]⟩, .string (lvl n), .bool false, .slice none 0 0, .string ⟨#[109, 115, 103]⟩, .string (cohB msg), .bool false, .slice none 0 0]).below hb5 (by simp)
         have H5 := Lib.hid (And.intro hX5 (And.intro hc5 (And.intro hC5 (And.intro hB5 (And.intro hG5 H4.out.2.size)))))
         clear hG5 hX5 hc5 hC5 hb5 hB5 d0 d1 d2 d3)
      | (go_at_call 14
         refine (nested14 steps w4 SA AA sc ac r (Kd.C_below (Kd.C_below HS.out.1 H4.out.2) (Below.refl w4.heap.size w4)) HS.out.2.1 (Kd.C_below (Kd.C_below HS.out.2.2.1 H4.out.2) (Below.refl w4.heap.size w4)) HS.out.2.2.2 HW.out.1).mono ?_
         rintro e w5 ⟨A5, c5, rfl, hc5, hC5, hb5⟩
         have hX5 := (H4.out.1.below (Below.refl w4.heap.size w4) H4.out.1.lt).below hb5 (Nat.lt_of_lt_of_le H4.out.1.lt (Below.refl w4.heap.size w4).size)
         have e0 := hX5.cell 0
         have e1 := hX5.cell 1
         have e2 := hX5.cell 2
         have e3 := hX5.cell 3
         have hB5 := H4.out.2.trans (((Below.refl w4.heap.size w4).trans (hb5.mono (Below.refl w4.heap.size w4).size)).mono H4.out.2.size)
         have hlt5 := hX5.lt
         have H5b := Lib.hid (And.intro hX5 (And.intro hc5 (And.intro hC5 hB5)))
         have HL5 := Lib.hid (show Below w5.heap.size w5 (w5.alloc (.cells #[.string ⟨#[108, 101, 118, 101, 108]⟩, .string (lvl n), .bool false, .slice none 0 0, .string ⟨#[109, 115, 103]⟩, .string (cohB msg), .bool false, .slice none 0 0] 34)) from (Below.refl _ _).alloc (Nat.le_refl _) _)
         clear hX5 hc5 hC5 hb5 hB5 d0 d1 d2 d3)
      | (go_at_call 23
         refine (spec_Shown.calls (wtL (nestedL steps r) + 2) A5 c5 (nestedL steps r) (shownL (nestedL steps r)) w5 (Kd.C_below H5.out.2.2.1 (Below.refl w5.heap.size w5)) H5.out.2.1 ((shown_f _).1 _ (Nat.le_refl _) H40.out.1)).mono ?_
         rintro e w6 ⟨v6, rfl, hN6, hb6⟩
         obtain ⟨A6, c6, rfl, hc6, hC6⟩ := Kd.N_reads hN6
         have hX6 := (H5.out.1.below (Below.refl w5.heap.size w5) H5.out.1.lt).below hb6 (Nat.lt_of_lt_of_le H5.out.1.lt (Below.refl w5.heap.size w5).size)
         have f0 := hX6.cell 0
         have f1 := hX6.cell 1
         have f2 := hX6.cell 2
         have f3 := hX6.cell 3
         have hB6 := H5.out.2.2.2.1.trans (((Below.refl w5.heap.size w5).trans (hb6.mono (Below.refl w5.heap.size w5).size)).mono H5.out.2.2.2.1.size)
         have hlt6 := hX6.lt
         have hG6 := H5.out.2.2.2.2.1.below hb6 H5.out.2.2.2.2.1.lt
         have H6 := Lib.hid (And.intro hX6 (And.intro hc6 (And.intro hC6 (And.intro hB6 (And.intro hG6 H5.out.2.2.2.2.2)))))
         clear hN6 hG6 hX6 hc6 hC6 hb6 hB6 e0 e1 e2 e3)
      | (go_at_call 23
         refine (spec_Shown.calls (wtL (nestedL steps r) + 2) A5 c5 (nestedL steps r) (shownL (nestedL steps r)) (w5.alloc (.cells #[.string ⟨#[108, 101, 118, 101, 108]⟩, .string (lvl n), .bool false, .slice none 0 0, .string ⟨#[109, 115, 103]⟩, .string (cohB msg), .bool false, .slice none 0 0] 34)) (Kd.C_below H5b.out.2.2.1 HL5.out) H5b.out.2.1 ((shown_f _).1 _ (Nat.le_refl _) H40.out.1)).mono ?_
         rintro e w6 ⟨v6, rfl, hN6, hb6⟩
         obtain ⟨A6, c6, rfl, hc6, hC6⟩ := Kd.N_reads hN6
         have hX6 := (H5b.out.1.below HL5.out H5b.out.1.lt).below hb6 (Nat.lt_of_lt_of_le H5b.out.1.lt HL5.out.size)
         have f0 := hX6.cell 0
         have f1 := hX6.cell 1
         have f2 := hX6.cell 2
         have f3 := hX6.cell 3
         have hB6 := H5b.out.2.2.2.trans ((HL5.out.trans (hb6.mono HL5.out.size)).mono H5b.out.2.2.2.size)
         have hlt6 := hX6.lt
         have hG6 := (Blk.new w5 34 #[.string ⟨#[108, 101, 118, 101, 108]⟩, .string (lvl n), .bool false, .slice none 0 0, .string ⟨#[109, 115, 103]⟩, .string (cohB msg), .bool false, .slice none 0 0]).below hb6 (by simp)
         have H6 := Lib.hid (And.intro hX6 (And.intro hc6 (And.intro hC6 (And.intro hB6 (And.intro hG6 H5b.out.2.2.2.size)))))
         clear hN6 hG6 hX6 hc6 hC6 hb6 hB6 e0 e1 e2 e3)
      | (go_at_call 23
         refine (spec_Shown.calls (wtL (nestedL steps r) + 2) A5 c5 (nestedL steps r) (shownL (nestedL steps r)) w5 (Kd.C_below H5b.out.2.2.1 (Below.refl w5.heap.size w5)) H5b.out.2.1 ((shown_f _).1 _ (Nat.le_refl _) H40.out.1)).mono ?_
         rintro e w6 ⟨v6, rfl, hN6, hb6⟩
         obtain ⟨A6, c6, rfl, hc6, hC6⟩ := Kd.N_reads hN6
         have hX6 := (H5b.out.1.below (Below.refl w5.heap.size w5) H5b.out.1.lt).below hb6 (Nat.lt_of_lt_of_le H5b.out.1.lt (Below.refl w5.heap.size w5).size)
         have f0 := hX6.cell 0
         have f1 := hX6.cell 1
         have f2 := hX6.cell 2
         have f3 := hX6.cell 3
         have hB6 := H5b.out.2.2.2.trans (((Below.refl w5.heap.size w5).trans (hb6.mono (Below.refl w5.heap.size w5).size)).mono H5b.out.2.2.2.size)
         have hlt6 := hX6.lt
         have H6b := Lib.hid (And.intro hX6 (And.intro hc6 (And.intro hC6 hB6)))
         have HL6 := Lib.hid (show Below w6.heap.size w6 (w6.alloc (.cells #[.string ⟨#[108, 101, 118, 101, 108]⟩, .string (lvl n), .bool false, .slice none 0 0, .string ⟨#[109, 115, 103]⟩, .string (cohB msg), .bool false, .slice none 0 0] 34)) from (Below.refl _ _).alloc (Nat.le_refl _) _)
         clear hN6 hX6 hc6 hC6 hb6 hB6 e0 e1 e2 e3)
      | (go_at_call 22
         refine (spec_utf8.calls (wtL (shownL (nestedL steps r)) + 2) A6 c6 (shownL (nestedL steps r)) (utfL (shownL (nestedL steps r))) w6 (Kd.C_below H6.out.2.2.1 (Below.refl w6.heap.size w6)) H6.out.2.1 ((utf8_f _).1 _ (Nat.le_refl _) H40.out.2)).mono ?_
         rintro e w7 ⟨v7, rfl, hR7, hb7⟩
         obtain ⟨A7, c7, rfl, hc7, hC7⟩ := Kd.N_reads (Kd.R_N hR7)
         have hX7 := (H6.out.1.below (Below.refl w6.heap.size w6) H6.out.1.lt).below hb7 (Nat.lt_of_lt_of_le H6.out.1.lt (Below.refl w6.heap.size w6).size)
         have g0 := hX7.cell 0
         have g1 := hX7.cell 1
         have g2 := hX7.cell 2
         have g3 := hX7.cell 3
         have hB7 := H6.out.2.2.2.1.trans (((Below.refl w6.heap.size w6).trans (hb7.mono (Below.refl w6.heap.size w6).size)).mono H6.out.2.2.2.1.size)
         have hlt7 := hX7.lt
         have hNe : Kd.F k34 w7 (fun k => w6.heap.size ≤ k ∧ k < w7.heap.size) A7 (utfL (shownL (nestedL steps r))).length (utfL (shownL (nestedL steps r))) := Kd.F_mono (Kd.N_F (Kd.N_bound (Kd.R_N (Kd.R_bound hR7)))) (fun k hk => ⟨hk.1.2.1, hk.2⟩)
         have hG7 := H6.out.2.2.2.2.1.below hb7 H6.out.2.2.2.2.1.lt
         have hlg := H6.out.2.2.2.2.1.lt
         have hle := H6.out.2.2.2.2.2
         have hNf := Kd.F_mono hNe (fun k hk => show k ≠ _ from Nat.ne_of_gt (Nat.lt_of_lt_of_le hlg hk.1))
         have H7 := Lib.hid (And.intro hX7 (And.intro hc7 (And.intro hNf (And.intro hB7 (And.intro hG7 hle)))))
         clear hG7 hX7 hc7 hC7 hb7 hB7 hR7 hNe hNf hlg hle f0 f1 f2 f3)
      | (go_at_call 22
         refine (spec_utf8.calls (wtL (shownL (nestedL steps r)) + 2) A6 c6 (shownL (nestedL steps r)) (utfL (shownL (nestedL steps r))) (w6.alloc (.cells #[.string ⟨#[108, 101, 118, 101, 108]⟩, .string (lvl n), .bool false, .slice none 0 0, .string ⟨#[109, 115, 103]⟩, .string (cohB msg), .bool false, .slice none 0 0] 34)) (Kd.C_below H6b.out.2.2.1 HL6.out) H6b.out.2.1 ((utf8_f _).1 _ (Nat.le_refl _) H40.out.2)).mono ?_
         rintro e w7 ⟨v7, rfl, hR7, hb7⟩
         obtain ⟨A7, c7, rfl, hc7, hC7⟩ := Kd.N_reads (Kd.R_N hR7)
         have hX7 := (H6b.out.1.below HL6.out H6b.out.1.lt).below hb7 (Nat.lt_of_lt_of_le H6b.out.1.lt HL6.out.size)
         have g0 := hX7.cell 0
         have g1 := hX7.cell 1
         have g2 := hX7.cell 2
         have g3 := hX7.cell 3
         have hB7 := H6b.out.2.2.2.trans ((HL6.out.trans (hb7.mono HL6.out.size)).mono H6b.out.2.2.2.size)
         have hlt7 := hX7.lt
         have hNe : Kd.F k34 w7 (fun k => (w6.alloc (.cells #[.string ⟨#[108, 101, 118, 101, 108]⟩, .string (lvl n), .bool false, .slice none 0 0, .string ⟨#[109, 115, 103]⟩, .string (cohB msg), .bool false, .slice none 0 0] 34)).heap.size ≤ k ∧ k < w7.heap.size) A7 (utfL (shownL (nestedL steps r))).length (utfL (shownL (nestedL steps r))) := Kd.F_mono (Kd.N_F (Kd.N_bound (Kd.R_N (Kd.R_bound hR7)))) (fun k hk => ⟨hk.1.2.1, hk.2⟩)
         have hG7 := (Blk.new w6 34 #[.string ⟨#[108, 101, 118, 101, 108]⟩, .string (lvl n), .bool false, .slice none 0 0, .string ⟨#[109, 115, 103]⟩, .string (cohB msg), .bool false, .slice none 0 0]).below hb7 (by simp)
         have hlg := (Blk.new w6 34 #[.string ⟨#[108, 101, 118, 101, 108]⟩, .string (lvl n), .bool false, .slice none 0 0, .string ⟨#[109, 115, 103]⟩, .string (cohB msg), .bool false, .slice none 0 0]).lt
         have hle := H6b.out.2.2.2.size
         have hNf := Kd.F_mono hNe (fun k hk => show k ≠ _ from Nat.ne_of_gt (Nat.lt_of_lt_of_le hlg hk.1))
         have H7 := Lib.hid (And.intro hX7 (And.intro hc7 (And.intro hNf (And.intro hB7 (And.intro hG7 hle)))))
         clear hG7 hX7 hc7 hC7 hb7 hB7 hR7 hNe hNf hlg hle f0 f1 f2 f3)
      | (go_at_call 22
         refine (spec_utf8.calls (wtL (shownL (nestedL steps r)) + 2) A6 c6 (shownL (nestedL steps r)) (utfL (shownL (nestedL steps r))) w6 (Kd.C_below H6b.out.2.2.1 (Below.refl w6.heap.size w6)) H6b.out.2.1 ((utf8_f _).1 _ (Nat.le_refl _) H40.out.2)).mono ?_
         rintro e w7 ⟨v7, rfl, hR7, hb7⟩
         obtain ⟨A7, c7, rfl, hc7, hC7⟩ := Kd.N_reads (Kd.R_N hR7)
         have hX7 := (H6b.out.1.below (Below.refl w6.heap.size w6) H6b.out.1.lt).below hb7 (Nat.lt_of_lt_of_le H6b.out.1.lt (Below.refl w6.heap.size w6).size)
         have g0 := hX7.cell 0
         have g1 := hX7.cell 1
         have g2 := hX7.cell 2
         have g3 := hX7.cell 3
         have hB7 := H6b.out.2.2.2.trans (((Below.refl w6.heap.size w6).trans (hb7.mono (Below.refl w6.heap.size w6).size)).mono H6b.out.2.2.2.size)
         have hlt7 := hX7.lt
         have hNe : Kd.F k34 w7 (fun k => w6.heap.size ≤ k ∧ k < w7.heap.size) A7 (utfL (shownL (nestedL steps r))).length (utfL (shownL (nestedL steps r))) := Kd.F_mono (Kd.N_F (Kd.N_bound (Kd.R_N (Kd.R_bound hR7)))) (fun k hk => ⟨hk.1.2.1, hk.2⟩)
         have H7b := Lib.hid (And.intro hX7 (And.intro hc7 (And.intro hNe hB7)))
         have HL7 := Lib.hid (show Below w7.heap.size w7 (w7.alloc (.cells #[.string ⟨#[108, 101, 118, 101, 108]⟩, .string (lvl n), .bool false, .slice none 0 0, .string ⟨#[109, 115, 103]⟩, .string (cohB msg), .bool false, .slice none 0 0] 34)) from (Below.refl _ _).alloc (Nat.le_refl _) _)
         clear hX7 hc7 hC7 hb7 hB7 hR7 hNe f0 f1 f2 f3)
      | (refine Kd.N_append_rows_step k34 (w0 := w7) (W := w7) _ (by rfl) (.tmp 11) (.tmp 18) 23 34 (.agg #[(.string ⟨#[]⟩), (.string ⟨#[]⟩), (.bool false), (.slice none 0 0)]) 64 (by rfl) Tryz.underlying23 info34 rfl (by decide) (by omega) _ [⟨keyLevelB, lvl n, false, []⟩, ⟨keyMsgB, cohB msg, false, []⟩] (utfL (shownL (nestedL steps r))) A7 (utfL (shownL (nestedL steps r))).length c7 (fun _ => True) _ (by rfl) (by rfl) (N_two H7.out.2.2.2.2.1 (Nat.le_refl _)) H7.out.2.2.1 ?hk (fun _ _ => trivial) (Below.refl _ _) (Nat.le_of_lt H7.out.2.2.2.2.1.lt) ?hl ?_
         case hk =>
           intro k hk
           refine ⟨trivial, fun e => hk ?_⟩
           simpa [Value.ownBlock] using e
         case hl =>
           have h1 := utf_len (shownL (nestedL steps r))
           have h2 := shown_len (nestedL steps r)
           have h3 := H40.out.1
           show (2 + _) * 64 ≤ _
           omega
         intro v8 w8 hN8 hB8 hg8 hat8
         have hX8 := H7.out.1.grown hg8 (by
           have h1 := H7.out.2.2.2.2.1.ne_ H7.out.1 (by decide)
           intro h2
           apply h1
           simpa [Value.ownBlock] using h2.symm)
         have q0 := hX8.cell 0
         have q1 := hX8.cell 1
         have q2 := hX8.cell 2
         have q3 := hX8.cell 3
         have hlt8 := hX8.lt
         have hWg : Below W.heap.size W w8 := H7.out.2.2.2.1.grown hg8 H7.out.2.2.2.1.size (fun k hk => by
           have h1 := H7.out.2.2.2.2.2
           simp [Value.ownBlock] at hk
           omega)
         obtain ⟨A8, c8, rfl, hc8, hC8⟩ := Kd.N_reads hN8
         have H8 := Lib.hid (And.intro hc8 (And.intro hC8 hWg))
         clear hN8 hB8 hg8 hat8 hX8 hc8 hC8 hWg g0 g1 g2 g3)
      | (refine Kd.N_append_rows_step k34 (w0 := (w7.alloc (.cells #[.string ⟨#[108, 101, 118, 101, 108]⟩, .string (lvl n), .bool false, .slice none 0 0, .string ⟨#[109, 115, 103]⟩, .string (cohB msg), .bool false, .slice none 0 0] 34))) (W := (w7.alloc (.cells #[.string ⟨#[108, 101, 118, 101, 108]⟩, .string (lvl n), .bool false, .slice none 0 0, .string ⟨#[109, 115, 103]⟩, .string (cohB msg), .bool false, .slice none 0 0] 34))) _ (by rfl) (.tmp 11) (.tmp 18) 23 34 (.agg #[(.string ⟨#[]⟩), (.string ⟨#[]⟩), (.bool false), (.slice none 0 0)]) 64 (by rfl) Tryz.underlying23 info34 rfl (by decide) (by omega) _ [⟨keyLevelB, lvl n, false, []⟩, ⟨keyMsgB, cohB msg, false, []⟩] (utfL (shownL (nestedL steps r))) A7 (utfL (shownL (nestedL steps r))).length c7 (fun _ => True) _ (by rfl) (by rfl) (N_two (Blk.new w7 34 #[.string ⟨#[108, 101, 118, 101, 108]⟩, .string (lvl n), .bool false, .slice none 0 0, .string ⟨#[109, 115, 103]⟩, .string (cohB msg), .bool false, .slice none 0 0]) (Nat.le_refl _)) (Kd.F_mono (Kd.F_below H7b.out.2.2.1 HL7.out) (fun k hk => show k ≠ w7.heap.size from Nat.ne_of_lt hk.2)) ?hk (fun _ _ => trivial) (Below.refl _ _) (Nat.le_of_lt (Blk.new w7 34 #[.string ⟨#[108, 101, 118, 101, 108]⟩, .string (lvl n), .bool false, .slice none 0 0, .string ⟨#[109, 115, 103]⟩, .string (cohB msg), .bool false, .slice none 0 0]).lt) ?hl ?_
         case hk =>
           intro k hk
           refine ⟨trivial, fun e => hk ?_⟩
           simpa [Value.ownBlock] using e
         case hl =>
           have h1 := utf_len (shownL (nestedL steps r))
           have h2 := shown_len (nestedL steps r)
           have h3 := H40.out.1
           show (2 + _) * 64 ≤ _
           omega
         intro v8 w8 hN8 hB8 hg8 hat8
         have hX8 := (H7b.out.1.below HL7.out H7b.out.1.lt).grown hg8 (by
           have h1 := (Blk.new w7 34 #[.string ⟨#[108, 101, 118, 101, 108]⟩, .string (lvl n), .bool false, .slice none 0 0, .string ⟨#[109, 115, 103]⟩, .string (cohB msg), .bool false, .slice none 0 0]).ne_ (H7b.out.1.below HL7.out H7b.out.1.lt) (by decide)
           intro h2
           apply h1
           simpa [Value.ownBlock] using h2.symm)
         have q0 := hX8.cell 0
         have q1 := hX8.cell 1
         have q2 := hX8.cell 2
         have q3 := hX8.cell 3
         have hlt8 := hX8.lt
         have hWg : Below W.heap.size W w8 := (H7b.out.2.2.2.trans (HL7.out.mono H7b.out.2.2.2.size)).grown hg8 (H7b.out.2.2.2.trans (HL7.out.mono H7b.out.2.2.2.size)).size (fun k hk => by
           have h1 := H7b.out.2.2.2.size
           simp [Value.ownBlock] at hk
           omega)
         obtain ⟨A8, c8, rfl, hc8, hC8⟩ := Kd.N_reads hN8
         have H8 := Lib.hid (And.intro hc8 (And.intro hC8 hWg))
         clear hN8 hB8 hg8 hat8 hX8 hc8 hC8 hWg g0 g1 g2 g3)))
  all_goals
    have HZ := Lib.hid (And.intro H8.out.1 (And.intro H8.out.2.1 (HB.out.trans (H8.out.2.2.mono (by have := HB.out.size; omega)))))
    go_wp2_with fail
    go_ret
    have hlen : (membsU n msg (nestedL steps r)).length = (utfL (shownL (nestedL steps r))).length + 1 + 1 := by simp [membsU]
    refine ⟨A8, c8, ?_, HZ.out.1, HZ.out.2.1, by rw [hlb]; exact HZ.out.2.2⟩
    rw [hlen]
    rfl
end Go.Proofs.YtcllhgajdcemiaaGreatDoor.jb

namespace Go.Proofs.YtcllhgajdcemiaaGreatDoor.jb
open Go.RowKit Go.Proofs.YtcllhgajdcemiaaGreatDoorW.PrintWords Go.Proofs.YtcllhgajdcemiaaGreatDoorW.PrintLast Go.Proofs.YtcllhgajdcemiaaGreatDoorW.PrintMore
open Go.Proofs.YtcllhgajdcemiaaGreatDoor.PFnJSONBack
open Go.Proofs.YtcllhgajdcemiaaGreatDoor.wk (Blk lvl)
set_option linter.unusedVariables false
set_option linter.unusedSimpArgs false
set_option maxRecDepth 100000 in
theorem conv_blk {w : World} {g : Nat} (l : List UInt8) (hb : Blk w g 5 (wk.bytesOf l).toArray) : (convert 60 9 (.slice (some ⟨g, 0, none⟩) l.length l.length)).run Tryz.prog w = .ok (.string ⟨l.toArray⟩) w := by
  have hc : Lib.Bytes w g 0 ⟨l.toArray⟩ := by
    intro i hi
    have hi' : i < l.length := by simpa [ByteArray.size] using hi
    have := hb.cell (0 + i)
    have e : (⟨l.toArray⟩ : ByteArray)[i] = l[i] := by show l.toArray[i] = l[i]; simp
    rw [this, e]
    simp [wk.bytesOf, List.getElem?_map, List.getElem?_eq_getElem hi']
  have h := Lib.run_convert_whole (P := Tryz.prog) w 60 5 9 Tryz.underlying60 Tryz.underlying5 Tryz.underlying9 g 0 ⟨l.toArray⟩ hc l.length
  simpa [ByteArray.size] using h
set_option maxRecDepth 100000 in
set_option maxHeartbeats 2000000 in
theorem coded_small (w : World) (c : UInt8) (hc : c.toNat < 32) : Calls Tryz.prog 37 #[.int .i64 c.toNat] w fun e w' => e = .returned (.string ⟨#[c]⟩) ∧ Below w.heap.size w w' := by
  have h1 : decide ((c.toNat : Int) < 128) = true := decide_eq_true (by omega)
  have hb := Blk.new (w.alloc (.cells #[.int .i64 c.toNat] 3)) 5 #[.int .u8 c.toNat]
  have hcv := conv_blk [c] (by simpa [wk.bytesOf] using hb)
  simp only [List.length_singleton] at hcv
  clear hb
  go_enter Tryz.func37, Tryz.ntmps37
  go_wp2_with fail
  go_ret
  exact ⟨rfl, ((Below.refl _ w).alloc (Nat.le_refl _) _).alloc (by simp) _⟩
theorem bytes_168 : (wk.bytesOf [226, 128, 168]).toArray = #[.int .u8 226, .int .u8 128, .int .u8 168] := by
  have h1 : (226 : UInt8).toNat = 226 := by decide
  have h2 : (128 : UInt8).toNat = 128 := by decide
  have h3 : (168 : UInt8).toNat = 168 := by decide
  unfold wk.bytesOf
  rw [List.map_cons, List.map_cons, List.map_cons, List.map_nil, h1, h2, h3]
  rfl
theorem conv_three_168 (W : World) : (convert 60 9 (.slice (some ⟨W.heap.size, 0, none⟩) 3 3)).run Tryz.prog (W.alloc (.cells #[.int .u8 226, .int .u8 128, .int .u8 168] 5)).drew = .ok (.string ⟨#[226, 128, 168]⟩) (W.alloc (.cells #[.int .u8 226, .int .u8 128, .int .u8 168] 5)).drew := by
  have hb : Blk (W.alloc (.cells #[.int .u8 226, .int .u8 128, .int .u8 168] 5)).drew W.heap.size 5 (wk.bytesOf [226, 128, 168]).toArray := by
    rw [bytes_168]
    exact (Blk.new W 5 #[.int .u8 226, .int .u8 128, .int .u8 168]).drew
  exact conv_blk [226, 128, 168] hb
theorem bytes_169 : (wk.bytesOf [226, 128, 169]).toArray = #[.int .u8 226, .int .u8 128, .int .u8 169] := by
  have h1 : (226 : UInt8).toNat = 226 := by decide
  have h2 : (128 : UInt8).toNat = 128 := by decide
  have h3 : (169 : UInt8).toNat = 169 := by decide
  unfold wk.bytesOf
  rw [List.map_cons, List.map_cons, List.map_cons, List.map_nil, h1, h2, h3]
  rfl
theorem conv_three_169 (W : World) : (convert 60 9 (.slice (some ⟨W.heap.size, 0, none⟩) 3 3)).run Tryz.prog (W.alloc (.cells #[.int .u8 226, .int .u8 128, .int .u8 169] 5)).drew = .ok (.string ⟨#[226, 128, 169]⟩) (W.alloc (.cells #[.int .u8 226, .int .u8 128, .int .u8 169] 5)).drew := by
  have hb : Blk (W.alloc (.cells #[.int .u8 226, .int .u8 128, .int .u8 169] 5)).drew W.heap.size 5 (wk.bytesOf [226, 128, 169]).toArray := by
    rw [bytes_169]
    exact (Blk.new W 5 #[.int .u8 226, .int .u8 128, .int .u8 169]).drew
  exact conv_blk [226, 128, 169] hb
set_option maxRecDepth 100000 in
theorem more57_a (w : World) (nb : Nat) (h : w.cell? ⟨nb, 0, none⟩ = some (.int .i64 8232)) : Calls Tryz.prog 57 #[.int .i64 1, .pointer (some ⟨nb, 0, none⟩)] w fun e w' => e = .returned (.int .u8 128) ∧ w = w' := by
  have b1 : Go.bits .and .i64 128 63 = 0 := by decide +kernel
  have b2 : Go.bits .or .i64 128 0 = 128 := by decide +kernel
  go_enter Tryz.func57, Tryz.ntmps57
  go_wp2_with fail
  go_ret
  exact ⟨rfl, rfl⟩
set_option maxRecDepth 100000 in
theorem more57_b (w : World) (nb : Nat) (h : w.cell? ⟨nb, 0, none⟩ = some (.int .i64 8232)) : Calls Tryz.prog 57 #[.int .i64 0, .pointer (some ⟨nb, 0, none⟩)] w fun e w' => e = .returned (.int .u8 168) ∧ w = w' := by
  have b1 : Go.bits .and .i64 8232 63 = 40 := by decide +kernel
  have b2 : Go.bits .or .i64 128 40 = 168 := by decide +kernel
  go_enter Tryz.func57, Tryz.ntmps57
  go_wp2_with fail
  go_ret
  exact ⟨rfl, rfl⟩
set_option maxRecDepth 100000 in
theorem more57_c (w : World) (nb : Nat) (h : w.cell? ⟨nb, 0, none⟩ = some (.int .i64 8233)) : Calls Tryz.prog 57 #[.int .i64 1, .pointer (some ⟨nb, 0, none⟩)] w fun e w' => e = .returned (.int .u8 128) ∧ w = w' := by
  have b1 : Go.bits .and .i64 128 63 = 0 := by decide +kernel
  have b2 : Go.bits .or .i64 128 0 = 128 := by decide +kernel
  go_enter Tryz.func57, Tryz.ntmps57
  go_wp2_with fail
  go_ret
  exact ⟨rfl, rfl⟩
set_option maxRecDepth 100000 in
theorem more57_d (w : World) (nb : Nat) (h : w.cell? ⟨nb, 0, none⟩ = some (.int .i64 8233)) : Calls Tryz.prog 57 #[.int .i64 0, .pointer (some ⟨nb, 0, none⟩)] w fun e w' => e = .returned (.int .u8 169) ∧ w = w' := by
  have b1 : Go.bits .and .i64 8233 63 = 41 := by decide +kernel
  have b2 : Go.bits .or .i64 128 41 = 169 := by decide +kernel
  go_enter Tryz.func57, Tryz.ntmps57
  go_wp2_with fail
  go_ret
  exact ⟨rfl, rfl⟩
theorem more57_8232 (w : World) (nb : Nat) (k : Int) (hk : k = 1 ∨ k = 0) (h : w.cell? ⟨nb, 0, none⟩ = some (.int .i64 8232)) : Calls Tryz.prog 57 #[.int .i64 k, .pointer (some ⟨nb, 0, none⟩)] w fun e w' => ∃ b, e = .returned (.int .u8 b) ∧ (k = 1 → b = 128) ∧ (k = 0 → b = 168) ∧ w = w' := by
  rcases hk with rfl | rfl
  · exact (more57_a w nb h).mono fun e w' ⟨h1, h2⟩ => ⟨128, h1, fun _ => rfl, fun h => absurd h (by decide), h2⟩
  · exact (more57_b w nb h).mono fun e w' ⟨h1, h2⟩ => ⟨168, h1, fun h => absurd h (by decide), fun _ => rfl, h2⟩
theorem more57_8233 (w : World) (nb : Nat) (k : Int) (hk : k = 1 ∨ k = 0) (h : w.cell? ⟨nb, 0, none⟩ = some (.int .i64 8233)) : Calls Tryz.prog 57 #[.int .i64 k, .pointer (some ⟨nb, 0, none⟩)] w fun e w' => ∃ b, e = .returned (.int .u8 b) ∧ (k = 1 → b = 128) ∧ (k = 0 → b = 169) ∧ w = w' := by
  rcases hk with rfl | rfl
  · exact (more57_c w nb h).mono fun e w' ⟨h1, h2⟩ => ⟨128, h1, fun _ => rfl, fun h => absurd h (by decide), h2⟩
  · exact (more57_d w nb h).mono fun e w' ⟨h1, h2⟩ => ⟨169, h1, fun h => absurd h (by decide), fun _ => rfl, h2⟩
set_option maxRecDepth 100000 in
set_option maxHeartbeats 2000000 in
theorem coded_8232 (w : World) : Calls Tryz.prog 37 #[.int .i64 8232] w fun e w' => e = .returned (.string ⟨#[226, 128, 168]⟩) ∧ Below w.heap.size w w' := by
  have hb := Blk.new w 3 #[.int .i64 8232]
  have hba : Below w.heap.size w (w.alloc (.cells #[.int .i64 8232] 3)) := (Below.refl _ w).alloc (Nat.le_refl _) _
  have HBa := Lib.hid hba
  have b1 : Go.bits .or .i64 224 2 = 226 := by decide +kernel
  have b3 : IntKind.u8.wrap 226 = 226 := by decide +kernel
  have y0 := hb.cell 0
  have HX := Lib.hid hb
  clear hba hb
  go_enter Tryz.func37, Tryz.ntmps37
  go_wp2_with fail
  generalize hnb : w.heap.size = nb at *
  generalize w.alloc (.cells #[.int .i64 8232] 3) = W at *
  have hlt := HX.out.lt
  have hcv : (convert 60 9 (.slice (some ⟨W.heap.size, 0, none⟩) 3 3)).run Tryz.prog (W.alloc (.cells #[.int .u8 226, .int .u8 128, .int .u8 168] 5)).drew = .ok (.string ⟨#[226, 128, 168]⟩) (W.alloc (.cells #[.int .u8 226, .int .u8 128, .int .u8 168] 5)).drew :=
    conv_three_168 W
  go_region_with (first | (go_at_call 57; refine (more57_8232 W.drew nb _ (by first | exact .inl rfl | exact .inr rfl) y0).mono ?_; rintro e w3 ⟨b, rfl, hb1, hb0, rfl⟩; (first | (have hb := hb1 rfl; clear hb1 hb0; subst hb) | (have hb := hb0 rfl; clear hb1 hb0; subst hb))))
  all_goals
    go_wp2_with fail
    go_ret
    refine ⟨rfl, ?_⟩
    rw [hnb]
    exact HBa.out.trans (((Below.refl _ W).alloc (by omega) _).drew)
set_option maxRecDepth 100000 in
set_option maxHeartbeats 2000000 in
theorem coded_8233 (w : World) : Calls Tryz.prog 37 #[.int .i64 8233] w fun e w' => e = .returned (.string ⟨#[226, 128, 169]⟩) ∧ Below w.heap.size w w' := by
  have hb := Blk.new w 3 #[.int .i64 8233]
  have hba : Below w.heap.size w (w.alloc (.cells #[.int .i64 8233] 3)) := (Below.refl _ w).alloc (Nat.le_refl _) _
  have HBa := Lib.hid hba
  have b1 : Go.bits .or .i64 224 2 = 226 := by decide +kernel
  have b3 : IntKind.u8.wrap 226 = 226 := by decide +kernel
  have y0 := hb.cell 0
  have HX := Lib.hid hb
  clear hba hb
  go_enter Tryz.func37, Tryz.ntmps37
  go_wp2_with fail
  generalize hnb : w.heap.size = nb at *
  generalize w.alloc (.cells #[.int .i64 8233] 3) = W at *
  have hlt := HX.out.lt
  have hcv : (convert 60 9 (.slice (some ⟨W.heap.size, 0, none⟩) 3 3)).run Tryz.prog (W.alloc (.cells #[.int .u8 226, .int .u8 128, .int .u8 169] 5)).drew = .ok (.string ⟨#[226, 128, 169]⟩) (W.alloc (.cells #[.int .u8 226, .int .u8 128, .int .u8 169] 5)).drew :=
    conv_three_169 W
  go_region_with (first | (go_at_call 57; refine (more57_8233 W.drew nb _ (by first | exact .inl rfl | exact .inr rfl) y0).mono ?_; rintro e w3 ⟨b, rfl, hb1, hb0, rfl⟩; (first | (have hb := hb1 rfl; clear hb1 hb0; subst hb) | (have hb := hb0 rfl; clear hb1 hb0; subst hb))))
  all_goals
    go_wp2_with fail
    go_ret
    refine ⟨rfl, ?_⟩
    rw [hnb]
    exact HBa.out.trans (((Below.refl _ W).alloc (by omega) _).drew)
end Go.Proofs.YtcllhgajdcemiaaGreatDoor.jb
