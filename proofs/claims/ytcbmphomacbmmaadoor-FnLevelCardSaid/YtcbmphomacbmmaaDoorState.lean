/-
  The handler's state in memory (h, buf, sep, prefix) and the contracts of the functions that write through it, for strings that need no quoting. Conditions: no group is open, no attribute was given before, and the line takes at most 2^47 bytes.
-/
import Derived.Test.YtcbmphomacbmmaaDoorBase
import Derived.StillTailTactics
import Derived.Deep.RegionWith
import Derived.Deep.QuietTactic
import Derived.BigQuiet
namespace Go.Proofs.YtcbmphomacbmmaaDoor
open Go.RowKit

theorem own_set {w : World} {base : Nat} {e : TypeId} {size n : Nat} {v : Value} {xs : List Value} (h : w.ownsRow base e size v n xs) {p : Addr} (hne : v.ownBlock ≠ some p.block) (u : Value) :
    (w.setCell p u).ownsRow base e size v n xs :=
  h.kept (row := some p.block) ⟨rfl, rfl, rfl, by simp [World.setCell], fun k _ hk => Below.heap_setCell w p u k (fun e => hk (by rw [e]))⟩ (.inr hne)

structure St (w : World) (B : Nat) (js : Bool) (bh bs bb bp : Nat) (fb : Bool) (sep : ByteArray) (l : List UInt8) : Prop where
  s : Blk w bs 66 #[.pointer (some ⟨bh, 0, none⟩), .pointer (some ⟨bb, 0, none⟩), .bool fb, .string sep, .pointer (some ⟨bp, 0, none⟩), .pointer none]
  h : Blk w bh 47 #[.bool js, .slice none 0 0, .string ⟨#[]⟩, .slice none 0 0, .int .i64 0]
  p : Blk w bp 44 #[.slice none 0 0]
  b : Buf w B bb l
  ne : bb ≠ bp
  los : B ≤ bs
  lob : B ≤ bb
  hz : B ≤ w.heap.size

section
variable {w w' : World} {B bh bs bb bp : Nat} {js fb : Bool} {sep : ByteArray} {l l' : List UInt8}

theorem Wrote.st {v : Value} (h : St w B js bh bs bb bp fb sep l) (hv : Blk w bb 44 #[v]) (hown : w.ownsRow B 5 1 v l.length (bytesOf l)) (hW : Wrote w B bb v l' w') :
    St w' B js bh bs bb bp fb sep l' ∧ Below B w w' := by
  obtain ⟨w1, v', rfl, hg, ho⟩ := hW
  have hs1 := h.s.grown hg (own_blk_ne hown h.s (by decide)).symm
  have hh1 := h.h.grown hg (own_blk_ne hown h.h (by decide)).symm
  have hp1 := h.p.grown hg (own_blk_ne hown h.p (by decide)).symm
  have hb1 := hv.grown hg (own_blk_ne hown hv (by decide)).symm
  have hbel : Below B w (w1.setCell ⟨bb, 0, none⟩ v') := ((Below.refl B w).grown hg h.hz (fun k hk => (hown.lt k hk).1)).setCell (p := ⟨bb, 0, none⟩) h.lob v'
  refine ⟨⟨hs1.far (h.s.ne_ hv (by decide)) v', hh1.far (h.h.ne_ hv (by decide)) v', hp1.far (p := ⟨bb, 0, none⟩) (Ne.symm h.ne) v', ⟨v', ?_, own_set ho (own_blk_ne ho hb1 (by decide)) v'⟩, h.ne, h.los, h.lob, Nat.le_trans h.hz hbel.size⟩, hbel⟩
  have := hb1.set_ 0 v'
  simpa using this

theorem St.drew (h : St w B js bh bs bb bp fb sep l) : St w.drew B js bh bs bb bp fb sep l := ⟨h.s, h.h, h.p, h.b, h.ne, h.los, h.lob, h.hz⟩
theorem St.drewN (h : St w B js bh bs bb bp fb sep l) (n : Nat) : St (w.drewN n) B js bh bs bb bp fb sep l := ⟨h.s, h.h, h.p, h.b, h.ne, h.los, h.lob, h.hz⟩

theorem St.setSep (h : St w B js bh bs bb bp fb sep l) (sep' : ByteArray) : St (w.setCell ⟨bs, 3, none⟩ (.string sep')) B js bh bs bb bp fb sep' l := by
  obtain ⟨v, hv, hown⟩ := h.b
  refine ⟨?_, h.h.far (p := ⟨bs, 3, none⟩) (h.h.ne_ h.s (by decide)) _, h.p.far (p := ⟨bs, 3, none⟩) (h.p.ne_ h.s (by decide)) _, ⟨v, hv.far (p := ⟨bs, 3, none⟩) (hv.ne_ h.s (by decide)) _, own_set hown (own_blk_ne hown h.s (by decide)) _⟩, h.ne, h.los, h.lob, by simpa [World.setCell] using h.hz⟩
  have := h.s.set_ 3 (.string sep')
  simpa using this

theorem writeString_st (h : St w B js bh bs bb bp fb sep l) (s : ByteArray) (hlen : l.length + s.size ≤ 140737488355328) :
    Calls Tryd.prog 23 #[.pointer (some ⟨bb, 0, none⟩), .string s] w fun e w' => e = .returned (.tuple #[.int .i64 s.size, .nilIface]) ∧ St w' B js bh bs bb bp fb sep (l ++ s.data.toList) ∧ Below B w w' := by
  obtain ⟨v, hv, hown⟩ := h.b
  exact (writeString_any w B bb v l s hv hown h.hz hlen).mono fun e w' ⟨he, hW⟩ => ⟨he, hW.st h hv hown⟩
theorem writeByte_st (h : St w B js bh bs bb bp fb sep l) (c : UInt8) (hlen : l.length + 1 ≤ 140737488355328) :
    Calls Tryd.prog 33 #[.pointer (some ⟨bb, 0, none⟩), .int .u8 c.toNat] w fun e w' => e = .returned .nilIface ∧ St w' B js bh bs bb bp fb sep (l ++ [c]) ∧ Below B w w' := by
  obtain ⟨v, hv, hown⟩ := h.b
  exact (writeByte_any w B bb v l c hv hown h.hz hlen).mono fun e w' ⟨he, hW⟩ => ⟨he, hW.st h hv hown⟩
end

def sepOf (js : Bool) : ByteArray := if js then ⟨#[44]⟩ else ⟨#[32]⟩
theorem attrSep_any (w : World) (bh : Nat) (js : Bool) (h0 : w.cell? ⟨bh, 0, none⟩ = some (.bool js)) :
    Calls Tryd.prog 24 #[.pointer (some ⟨bh, 0, none⟩)] w fun e w' => e = .returned (.string (sepOf js)) ∧ w = w' := by
  cases js
  · go_enter Tryd.func24, Tryd.ntmps24
    go_wp2
    go_ret
    exact ⟨rfl, rfl⟩
  · go_enter Tryd.func24, Tryd.ntmps24
    go_wp2
    go_ret
    exact ⟨rfl, rfl⟩
end Go.Proofs.YtcbmphomacbmmaaDoor
