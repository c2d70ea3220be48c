/-
  Record.AddAttrs: the attributes that are no empty groups. Conditions: the list is not too long.
-/
import Derived.Test.YtcllhgajdcemiaaGreatDoorGg
import Derived.Deep.RegionLaw
namespace Go.Proofs.YtcllhgajdcemiaaGreatDoor.jb
open Go.RowKit Go.Proofs.YtcllhgajdcemiaaGreatDoorW.PrintWords Go.Proofs.YtcllhgajdcemiaaGreatDoorW.PrintLast Go.Proofs.YtcllhgajdcemiaaGreatDoorW.PrintMore
open Go.Proofs.YtcllhgajdcemiaaGreatDoor.wk (Blk bytesOf own_form)
set_option linter.unusedVariables false
set_option linter.unusedSimpArgs false
theorem N_put {α : Type} {d : Kd α} {e : Nat} {W : World} {base : Nat} {ok okp : Nat → Prop} {g n cap : Nat} {xs : List α} (HO : Kd.N d e W base ok (.slice (some ⟨g, 0, none⟩) n cap) xs) (i : Nat) (hi : i < n) (x' : α) (seg : List Value) (hsl : seg.length = d.sz) (hM : Kd.FK d W okp x' seg) (hokp : ∀ k, okp k → ok k ∧ k ≠ g) :
    Kd.N d e (W.setCells g (i * d.sz) seg) base ok (.slice (some ⟨g, 0, none⟩) n cap) (xs.set i x') ∧ W.grownBy (W.setCells g (i * d.sz) seg) (some g) := by
  obtain ⟨c, hcl, _, hcc, _⟩ := Kd.N_elem HO x' (i : Int) (by omega) (by omega)
  obtain ⟨hown, rows, hl, hR, hf⟩ := HO
  have hseg : c.take 0 ++ seg ++ c.drop (0 + seg.length) = seg := by
    rw [List.take_zero, List.nil_append, List.drop_eq_nil_of_le (by omega), List.append_nil]
  obtain ⟨hr, hg⟩ := Kd.R_seg (d := Kd.raw d.sz) (okp := fun _ => False) (Kd.raw_any hR) (i : Int) (by omega) (by omega) hcl hcc (j := 0) (seg := seg) (by show 0 + seg.length ≤ d.sz; omega) (x' := seg) (by rw [hseg]; exact Kd.FK_raw hM) (fun _ hk => hk.elim)
  have e0 : (i : Int).toNat * (Kd.raw d.sz).sz + 0 = i * d.sz := by rw [Int.toNat_natCast]; rfl
  rw [e0] at hr hg
  exact ⟨Kd.N_written hown hl hf hr hg hM hokp, hg⟩
/-- behind an append in place: the element and the field are stored. -/
def Fin (w0 W : World) (rb h0 : Nat) (msg : ByteArray) (lv : Int) (v : Value) (L : List S102) (A : Option Addr) (l : List S102) : Prop :=
  Below rb w0 W ∧ Blk W rb 75 #[.string msg, .int .i64 lv, v] ∧ Kd.N k102 102 W h0 (fun k => rb < k) v L ∧ Kd.F k102 W (fun k => rb < k ∧ k < h0) A l.length l ∧ h0 ≤ W.heap.size
section
variable {w0 w1 : World} {rb h0 g cap : Nat} {msg : ByteArray} {lv : Int} {u : Value} {L l : List S102} {x : S102} {A A3 : Option Addr} {c3 : Nat}
theorem fin_elem (hb : Below rb w0 w1) (hN : Kd.N k102 102 w1 h0 (fun k => rb < k) (.slice (some ⟨g, 0, none⟩) (L.length + 1) cap) (L ++ [z102])) (hR : Blk w1 rb 75 #[.string msg, .int .i64 lv, u]) (hrb : rb < h0)
    (hx : Kd.F k102 w1 (fun k => rb < k ∧ k < h0) A3 x.f3.length x.f3) (hl : x.f3.length ≤ c3) (hF : Kd.F k102 w1 (fun k => rb < k ∧ k < h0) A l.length l) (hs : h0 ≤ w1.heap.size) :
    Below rb w0 ((((w1.setCell ⟨g, L.length * 4, none⟩ (.string x.f0)).setCell ⟨g, L.length * 4 + 1, none⟩ (.int .i64 x.f1)).setCell ⟨g, L.length * 4 + 2, none⟩ (.string x.f2)).setCell ⟨g, L.length * 4 + 3, none⟩ (.slice A3 x.f3.length c3)) ∧
    Kd.N k102 102 ((((w1.setCell ⟨g, L.length * 4, none⟩ (.string x.f0)).setCell ⟨g, L.length * 4 + 1, none⟩ (.int .i64 x.f1)).setCell ⟨g, L.length * 4 + 2, none⟩ (.string x.f2)).setCell ⟨g, L.length * 4 + 3, none⟩ (.slice A3 x.f3.length c3)) h0 (fun k => rb < k) (.slice (some ⟨g, 0, none⟩) (L.length + 1) cap) (L ++ [x]) ∧
    Blk ((((w1.setCell ⟨g, L.length * 4, none⟩ (.string x.f0)).setCell ⟨g, L.length * 4 + 1, none⟩ (.int .i64 x.f1)).setCell ⟨g, L.length * 4 + 2, none⟩ (.string x.f2)).setCell ⟨g, L.length * 4 + 3, none⟩ (.slice A3 x.f3.length c3)) rb 75 #[.string msg, .int .i64 lv, u] ∧
    Kd.F k102 ((((w1.setCell ⟨g, L.length * 4, none⟩ (.string x.f0)).setCell ⟨g, L.length * 4 + 1, none⟩ (.int .i64 x.f1)).setCell ⟨g, L.length * 4 + 2, none⟩ (.string x.f2)).setCell ⟨g, L.length * 4 + 3, none⟩ (.slice A3 x.f3.length c3)) (fun k => rb < k ∧ k < h0) A l.length l ∧
    h0 ≤ ((((w1.setCell ⟨g, L.length * 4, none⟩ (.string x.f0)).setCell ⟨g, L.length * 4 + 1, none⟩ (.int .i64 x.f1)).setCell ⟨g, L.length * 4 + 2, none⟩ (.string x.f2)).setCell ⟨g, L.length * 4 + 3, none⟩ (.slice A3 x.f3.length c3)).heap.size := by
  have hg : h0 ≤ g := Kd.N_base hN g (by simp [Value.ownBlock])
  have hp := N_put hN L.length (by omega) x [.string x.f0, .int .i64 x.f1, .string x.f2, .slice A3 x.f3.length c3] rfl (k102_mkF _ _ x hl hx) (fun k hk => ⟨hk.1, by omega⟩)
  have e : w1.setCells g (L.length * k102.sz) [.string x.f0, .int .i64 x.f1, .string x.f2, .slice A3 x.f3.length c3] = ((((w1.setCell ⟨g, L.length * 4, none⟩ (.string x.f0)).setCell ⟨g, L.length * 4 + 1, none⟩ (.int .i64 x.f1)).setCell ⟨g, L.length * 4 + 2, none⟩ (.string x.f2)).setCell ⟨g, L.length * 4 + 3, none⟩ (.slice A3 x.f3.length c3)) := rfl
  have e2 : (L ++ [z102]).set L.length x = L ++ [x] := by simp
  rw [e, e2] at hp
  refine ⟨?_, hp.1, ?_, ?_, ?_⟩
  · exact (((hb.setCell (p := ⟨g, L.length * 4, none⟩) (by show rb ≤ g; omega) _).setCell (p := ⟨g, L.length * 4 + 1, none⟩) (by show rb ≤ g; omega) _).setCell (p := ⟨g, L.length * 4 + 2, none⟩) (by show rb ≤ g; omega) _).setCell (p := ⟨g, L.length * 4 + 3, none⟩) (by show rb ≤ g; omega) _
  · exact hR.grown hp.2 (by intro h; injection h with h; omega)
  · exact Kd.F_step hF (fun k hk hlt => hp.2.block k hlt (by intro h; injection h with h; omega))
  · exact Nat.le_trans hs hp.2.size
theorem finB (hb : Below rb w0 w1) (hN : Kd.N k102 102 w1 h0 (fun k => rb < k) (.slice (some ⟨g, 0, none⟩) (L.length + 1) cap) (L ++ [z102])) (hR : Blk w1 rb 75 #[.string msg, .int .i64 lv, u]) (hrb : rb < h0)
    (hx : Kd.F k102 w1 (fun k => rb < k ∧ k < h0) A3 x.f3.length x.f3) (hl : x.f3.length ≤ c3) (hF : Kd.F k102 w1 (fun k => rb < k ∧ k < h0) A l.length l) (hs : h0 ≤ w1.heap.size) :
    Fin w0 (((((w1.setCell ⟨g, L.length * 4, none⟩ (.string x.f0)).setCell ⟨g, L.length * 4 + 1, none⟩ (.int .i64 x.f1)).setCell ⟨g, L.length * 4 + 2, none⟩ (.string x.f2)).setCell ⟨g, L.length * 4 + 3, none⟩ (.slice A3 x.f3.length c3)).setCell ⟨rb, 2, none⟩ (.slice (some ⟨g, 0, none⟩) (L.length + 1) cap)) rb h0 msg lv (.slice (some ⟨g, 0, none⟩) (L.length + 1) cap) (L ++ [x]) A l := by
  obtain ⟨h1, h2, h3, h4, h5⟩ := fin_elem hb hN hR hrb hx hl hF hs
  refine ⟨h1.setCell (p := ⟨rb, 2, none⟩) (Nat.le_refl _) _, by simpa using h3.set_ 2 (.slice (some ⟨g, 0, none⟩) (L.length + 1) cap), Kd.N_far (p := ⟨rb, 2, none⟩) h2 (fun k hk => by show k ≠ rb; omega) _, ?_, by simpa [World.setCell] using h5⟩
  exact Kd.F_step h4 (fun k hk _ => Below.heap_setCell _ ⟨rb, 2, none⟩ _ k (by show k ≠ rb; omega))
theorem finA (hb : Below rb w0 w1) (hN : Kd.N k102 102 w1 h0 (fun k => rb < k) (.slice (some ⟨g, 0, none⟩) (L.length + 1) cap) (L ++ [z102])) (hR : Blk w1 rb 75 #[.string msg, .int .i64 lv, u]) (hrb : rb < h0)
    (hx : Kd.F k102 w1 (fun k => rb < k ∧ k < h0) A3 x.f3.length x.f3) (hl : x.f3.length ≤ c3) (hF : Kd.F k102 w1 (fun k => rb < k ∧ k < h0) A l.length l) (hs : h0 ≤ w1.heap.size) :
    Fin w0 (((((w1.setCell ⟨rb, 2, none⟩ (.slice (some ⟨g, 0, none⟩) (L.length + 1) cap)).setCell ⟨g, L.length * 4, none⟩ (.string x.f0)).setCell ⟨g, L.length * 4 + 1, none⟩ (.int .i64 x.f1)).setCell ⟨g, L.length * 4 + 2, none⟩ (.string x.f2)).setCell ⟨g, L.length * 4 + 3, none⟩ (.slice A3 x.f3.length c3)) rb h0 msg lv (.slice (some ⟨g, 0, none⟩) (L.length + 1) cap) (L ++ [x]) A l := by
  have hst : ∀ k, rb < k → (w1.setCell ⟨rb, 2, none⟩ (.slice (some ⟨g, 0, none⟩) (L.length + 1) cap)).heap[k]? = w1.heap[k]? := fun k hk => Below.heap_setCell _ ⟨rb, 2, none⟩ _ k (by show k ≠ rb; omega)
  obtain ⟨h1, h2, h3, h4, h5⟩ := fin_elem (w1 := w1.setCell ⟨rb, 2, none⟩ (.slice (some ⟨g, 0, none⟩) (L.length + 1) cap)) (u := .slice (some ⟨g, 0, none⟩) (L.length + 1) cap) (hb.setCell (p := ⟨rb, 2, none⟩) (Nat.le_refl _) _) (Kd.N_far (p := ⟨rb, 2, none⟩) hN (fun k hk => by show k ≠ rb; omega) _) (by simpa using hR.set_ 2 (.slice (some ⟨g, 0, none⟩) (L.length + 1) cap)) hrb
    (Kd.F_step hx (fun k hk _ => hst k hk.1)) hl (Kd.F_step hF (fun k hk _ => hst k hk.1)) (by simpa [World.setCell] using hs)
  exact ⟨h1, h3, h2, h4, h5⟩
end
set_option maxRecDepth 100000 in
set_option maxHeartbeats 2000000 in
theorem addAttrs34 (w : World) (rb : Nat) (msg : ByteArray) (lv : Int) (A : Option Addr) (n c : Nat) (l : List S102) (hr : Blk w rb 75 #[.string msg, .int .i64 lv, .slice none 0 0])
    (hF : Kd.F k102 w (fun k => rb < k ∧ k < w.heap.size) A n l) (hlen : l.length ≤ 1099511627776) :
    Calls Tryz.prog 34 #[.pointer (some ⟨rb, 0, none⟩), .slice A n c] w fun e w' => e = .returned (.tuple #[]) ∧ ∃ v, Blk w' rb 75 #[.string msg, .int .i64 lv, v] ∧ Kd.N k102 102 w' rb (fun k => rb < k) v (l.filter (fun a => !emptyG a)) ∧ Below rb w w' := by
  have hn := Kd.F_len hF
  subst hn
  have HF := Lib.hid hF
  have HM := Lib.hid (Kd.F_max hF)
  have HR := Lib.hid hr
  clear hF hr
  go_enter Tryz.func34, Tryz.ntmps34
  go_wp2_with fail
  go_loopg [8] (l.length) (fun j v8 wr => ∃ i : Nat, v8 = .int .i64 i ∧ Aside (i ≤ l.length ∧ j = l.length - i ∧ Below rb w wr ∧ ∃ u, Blk wr rb 75 #[.string msg, .int .i64 lv, u] ∧ Kd.N k102 102 wr w.heap.size (fun k => rb < k) u ((l.take i).filter (fun a => !emptyG a)) ∧ Kd.F k102 wr (fun k => rb < k ∧ k < w.heap.size) A l.length l ∧ w.heap.size ≤ wr.heap.size))
  case atStart => exact ⟨0, rfl, Nat.zero_le _, rfl, Below.refl _ w, _, HR.out, by simpa using Kd.N_nil _ _ _ _ _, HF.out, Nat.le_refl _⟩
  case round =>
    obtain ⟨i, rfl, HI⟩ := hrel
    obtain ⟨hI1, hI2, hI3, u, hI4, hI5, hI6, hI7⟩ := HI.out
    by_cases hi : i < l.length
    · have hi0 : decide ((i : Int) < (l.length : Int)) = true := decide_eq_true (by omega)
      obtain ⟨ad, A3, c3, e, hx0, hx1, hx2, hx3, hl3, hF3⟩ := at_F102 hI6 i hi
      cases e
      have HE3 := Lib.hid (And.intro hl3 hF3)
      have HW := Lib.hid (And.intro hI2 (And.intro hI3 (And.intro hI4 (And.intro hI5 (And.intro hI6 hI7)))))
      clear hF3 HI hl3 hI1 hI2 hI3 hI4 hI5 hI6 hI7
      go_wp2_with fail
      refine (isEmptyGroup50 _ l[i].f1 l[i].f2 A3 l[i].f3.length c3).mono ?_
      rintro e w3 ⟨rfl, hb2⟩
      have hE : (l[i].f1 == 2 && l[i].f3.length == 0) = emptyG l[i] := by
        unfold emptyG
        cases l[i].f3 <;> simp
      rw [hE]
      have hba : Below wr.heap.size wr (wr.alloc (.cells #[.string l[i].f0, .int .i64 l[i].f1, .string l[i].f2, .slice A3 l[i].f3.length c3] 102)) := (Below.refl _ _).alloc (Nat.le_refl _) _
      have hb3 : Below wr.heap.size wr w3 := hba.trans (hb2.mono hba.size)
      have hX := (Blk.new wr 102 #[.string l[i].f0, .int .i64 l[i].f1, .string l[i].f2, .slice A3 l[i].f3.length c3]).below hb2 (by simp)
      have hrb : rb < wr.heap.size := HW.out.2.2.1.lt
      have h1 : Below rb w w3 := HW.out.2.1.trans (hb3.mono (Nat.le_of_lt hrb))
      have h2 := HW.out.2.2.1.below hb3 hrb
      have h3 : Kd.N k102 102 w3 w.heap.size (fun k => rb < k) u ((l.take i).filter (fun a => !emptyG a)) := Kd.N_below HW.out.2.2.2.1 hb3
      have h4 : Kd.F k102 w3 (fun k => rb < k ∧ k < w.heap.size) (some ad) l.length l := Kd.F_below HW.out.2.2.2.2.1 hb3
      have h5 : w.heap.size ≤ w3.heap.size := Nat.le_trans HW.out.2.2.2.2.2 hb3.size
      have h6 : Kd.F k102 w3 (fun k => rb < k ∧ k < w.heap.size) A3 l[i].f3.length l[i].f3 := Kd.F_below HE3.out.2 hb3
      have e1 : l.take (i + 1) = l.take i ++ [l[i]] := (List.take_append_getElem hi).symm
      have HK := Lib.hid (And.intro HW.out.1 e1)
      have HW3 := Lib.hid (And.intro h1 (And.intro h2 (And.intro h3 (And.intro h4 (And.intro h5 (And.intro h6 (And.intro hX HE3.out.1)))))))
      clear h1 h2 h3 h4 h5 h6 hb2 hba hb3 hE hx0 hx1 hx2 hx3 hX hrb e1 HW HE3
      cases hEv : emptyG l[i] with
      | true =>
        go_wp2_with fail
        go_roundg (l.length - (i + 1))
        case measure => have := HK.out.1; omega
        case rel =>
          refine ⟨i + 1, by simp, hi, rfl, HW3.out.1, u, HW3.out.2.1, ?_, HW3.out.2.2.2.1, HW3.out.2.2.2.2.1⟩
          rw [HK.out.2, List.filter_append]
          simpa [hEv] using HW3.out.2.2.1
      | false =>
        obtain ⟨Au, cu, rfl⟩ := Kd.N_slice HW3.out.2.2.1
        have y0 := HW3.out.2.2.2.2.2.2.1.cell 0
        have y1 := HW3.out.2.2.2.2.2.2.1.cell 1
        have y2 := HW3.out.2.2.2.2.2.2.1.cell 2
        have y3 := HW3.out.2.2.2.2.2.2.1.cell 3
        have r2 := HW3.out.2.1.cell 2
        have rf2 := HW3.out.2.1.frozen 2
        have hLn : ((l.take i).filter (fun a => !emptyG a)).length ≤ l.length := by
          have h1 := List.length_filter_le (fun a => !emptyG a) (l.take i)
          rw [List.length_take] at h1
          omega
        generalize hL : (l.take i).filter (fun a => !emptyG a) = L at *
        generalize hgb : wr.heap.size = gb at *
        go_wp2_with fail
        have hrb3 : rb < w3.heap.size := HW3.out.2.1.lt
        have hrb0 : rb < w.heap.size := HR.out.lt
        have aO : Kd.N k102 102 w3.drew w.heap.size (fun k => rb < k) (.slice Au L.length cu) L := Kd.N_drew HW3.out.2.2.1
        have aF : ∀ k, w3.drew.heap.size ≤ k → rb < k := fun k hk => Nat.lt_of_lt_of_le hrb3 hk
        have aK : (L.length + 1) * 64 ≤ 140737488355328 := by omega
        have aS : w.heap.size ≤ w3.drew.heap.size := HW3.out.2.2.2.2.1
        have hbR := HW3.out.2.1.drew
        have hbN : some rb ≠ (Value.slice Au L.length cu).ownBlock := Kd.N_ne aO hbR (by decide)
        have HAll := Lib.hid (And.intro aO (And.intro aS (And.intro aF (And.intro aK (And.intro hbR hbN)))))
        have hgb3 : gb < w3.heap.size := HW3.out.2.2.2.2.2.2.1.lt
        have H0 := Lib.hid hrb0
        clear aO aS aF aK hbR hbN hrb0
        have hlt1 : (L.length : Int) < (L.length : Int) + 1 := by omega
        go_region_law (refine Kd.N_append_step k102 (w0 := w3.drew) (W := w3.drew) w.heap.size (by rfl) (.tmp 19) (.tmp 22) 71 102 (.agg #[(.string ⟨#[]⟩), (.int .i64 0), (.string ⟨#[]⟩), (.slice none 0 0)]) 64 (by rfl) Tryz.underlying71 info102 rfl (by decide) (by omega) (.slice Au L.length cu) L z102 [.string ⟨#[]⟩, .int .i64 0, .string ⟨#[]⟩, .slice none 0 0] (fun k => rb < k) (fun _ => False) (by rfl) (by rfl) (k102_mkF _ _ z102 (Nat.le_refl _) (Kd.F_nil _ _ _)) (fun _ hk => hk.elim) HAll.out.2.2.1 HAll.out.1 (Below.refl _ _) HAll.out.2.1 HAll.out.2.2.2.1 ?_
                       intro v1 w1 hN1 hB1 hg1 hat1
                       obtain ⟨g, cap, rfl, hbg, hlt, cells, hcells⟩ := Kd.N_form hN1 (by simp)
                       obtain ⟨ce, hcl, hK, hcc, hfr⟩ := Kd.N_elem hN1 z102 (L.length : Int) (by omega) (by simp; omega)
                       have hz : (L ++ [z102]).getD (L.length : Int).toNat z102 = z102 := by simp
                       rw [hz] at hK
                       obtain ⟨A9, c9, rfl, _, _⟩ := k102_openF hK
                       have q0 : w1.cell? ⟨g, L.length * 4, none⟩ = some (.string ⟨#[]⟩) := hcc 0 _ rfl
                       have q1 : w1.cell? ⟨g, L.length * 4 + 1, none⟩ = some (.int .i64 0) := hcc 1 _ rfl
                       have q2 : w1.cell? ⟨g, L.length * 4 + 2, none⟩ = some (.string ⟨#[]⟩) := hcc 2 _ rfl
                       have q3 : w1.cell? ⟨g, L.length * 4 + 3, none⟩ = some (.slice A9 z102.f3.length c9) := hcc 3 _ rfl
                       have p0 : w1.frozen? ⟨g, L.length * 4, none⟩ = false := hfr 0
                       have p1 : w1.frozen? ⟨g, L.length * 4 + 1, none⟩ = false := hfr 1
                       have p2 : w1.frozen? ⟨g, L.length * 4 + 2, none⟩ = false := hfr 2
                       have p3 : w1.frozen? ⟨g, L.length * 4 + 3, none⟩ = false := hfr 3
                       have hbR1 := HAll.out.2.2.2.2.1.grown hg1 HAll.out.2.2.2.2.2
                       have t2 : w1.cell? ⟨rb, 2, none⟩ = some (.slice Au L.length cu) := hbR1.cell 2
                       have tf2 : w1.frozen? ⟨rb, 2, none⟩ = false := hbR1.frozen 2
                       have hgr : g ≠ rb := fun e => Kd.N_ne hN1 hbR1 (by decide) (by rw [e]; simp [Value.ownBlock])
                       have hgr' : rb ≠ g := Ne.symm hgr
                       have hbw : Below rb w w1 := HW3.out.1.drew.trans (hB1.mono (Nat.le_of_lt H0.out))
                       have hx1 : Kd.F k102 w1 (fun k => rb < k ∧ k < w.heap.size) A3 l[i].f3.length l[i].f3 := Kd.F_step HW3.out.2.2.2.2.2.1 (fun k hk _ => hB1.block k hk.2)
                       have hF1 : Kd.F k102 w1 (fun k => rb < k ∧ k < w.heap.size) (some ad) l.length l := Kd.F_step HW3.out.2.2.2.1 (fun k hk _ => hB1.block k hk.2)
                       have hs1 : w.heap.size ≤ w1.heap.size := Nat.le_trans HAll.out.2.1 hB1.size
                       have HN1 := Lib.hid (And.intro hbw (And.intro (show Kd.N k102 102 w1 w.heap.size (fun k => rb < k) (.slice (some ⟨g, 0, none⟩) (L.length + 1) cap) (L ++ [z102]) by simpa using hN1) (And.intro hbR1 (And.intro hx1 (And.intro hF1 hs1)))))
                       clear hN1 hB1 hg1 hat1 hbR1 hcc hfr hK hz hcells hlt hbg hbw hx1 hF1 hs1)
        all_goals
          first
          | have HFin := Lib.hid (finA (x := l[i]) HN1.out.1 HN1.out.2.1 HN1.out.2.2.1 H0.out HN1.out.2.2.2.1 HW3.out.2.2.2.2.2.2.2 HN1.out.2.2.2.2.1 HN1.out.2.2.2.2.2)
            generalize (((((w1.setCell ⟨rb, 2, none⟩ (.slice (some ⟨g, 0, none⟩) (L.length + 1) cap)).setCell ⟨g, L.length * 4, none⟩ (.string l[i].f0)).setCell ⟨g, L.length * 4 + 1, none⟩ (.int .i64 l[i].f1)).setCell ⟨g, L.length * 4 + 2, none⟩ (.string l[i].f2)).setCell ⟨g, L.length * 4 + 3, none⟩ (.slice A3 l[i].f3.length c3)) = w9 at HFin ⊢
            clear q0 q1 q2 q3 p0 p1 p2 p3 t2 tf2 HN1 y0 y1 y2 y3 r2 rf2
            go_wp2_with fail
            go_roundg (l.length - (i + 1))
            case measure => have := HK.out.1; omega
            case rel =>
              refine ⟨i + 1, by simp, hi, rfl, HFin.out.1, _, HFin.out.2.1, ?_, HFin.out.2.2.2.1, HFin.out.2.2.2.2⟩
              rw [HK.out.2, List.filter_append, hL]
              simpa [hEv] using HFin.out.2.2.1
          | have HFin := Lib.hid (finB (x := l[i]) HN1.out.1 HN1.out.2.1 HN1.out.2.2.1 H0.out HN1.out.2.2.2.1 HW3.out.2.2.2.2.2.2.2 HN1.out.2.2.2.2.1 HN1.out.2.2.2.2.2)
            generalize (((((w1.setCell ⟨g, L.length * 4, none⟩ (.string l[i].f0)).setCell ⟨g, L.length * 4 + 1, none⟩ (.int .i64 l[i].f1)).setCell ⟨g, L.length * 4 + 2, none⟩ (.string l[i].f2)).setCell ⟨g, L.length * 4 + 3, none⟩ (.slice A3 l[i].f3.length c3)).setCell ⟨rb, 2, none⟩ (.slice (some ⟨g, 0, none⟩) (L.length + 1) cap)) = w9 at HFin ⊢
            clear q0 q1 q2 q3 p0 p1 p2 p3 t2 tf2 HN1 y0 y1 y2 y3 r2 rf2
            go_wp2_with fail
            go_roundg (l.length - (i + 1))
            case measure => have := HK.out.1; omega
            case rel =>
              refine ⟨i + 1, by simp, hi, rfl, HFin.out.1, _, HFin.out.2.1, ?_, HFin.out.2.2.2.1, HFin.out.2.2.2.2⟩
              rw [HK.out.2, List.filter_append, hL]
              simpa [hEv] using HFin.out.2.2.1
    · have hi0 : decide ((i : Int) < (l.length : Int)) = false := decide_eq_false (by omega)
      have hil : i = l.length := by omega
      subst hil
      rw [List.take_length] at hI5
      have HW := Lib.hid (And.intro hI3 (And.intro hI4 hI5))
      have hrb : rb < w.heap.size := HR.out.lt
      clear hI1 hI2 hI3 hI4 hI5 hI6 hI7 HI
      go_wp2_with fail
      go_end0
      exact ⟨rfl, u, HW.out.2.1, Kd.N_lower HW.out.2.2 (Nat.le_of_lt hrb), HW.out.1⟩
end Go.Proofs.YtcllhgajdcemiaaGreatDoor.jb
