/-
  PRead: What is written of a string (escL) is read (Rd) as the string in UTF-8 (cohL); no program in sight.
  PSize: spec.size as the print gives it (spec_size.f) is sizeL; no program in sight.
  PTree: THE HANDLER AS A FUNCTION (stepH, restH, lineJ), and that its line is the nested, shown attributes as they are written; no program in sight.
  PFuel: The print's functions with fuel (spec.Shown, spec.Plain, spec.SameAttrs, spec.Coerced, spec.utf8, impl.attrs, impl.log) come to the functions of PTree and PRead, where the trees are not too large; no program in sight.
  PHex: spec.hex as the print gives it (spec_hex.f) at the digits that the JSON handler writes; no program in sight.
-/
import Derived.Test.YtcllhgajdcemiaaGreatDoorEsc
import Derived.Test.YtcllhgajdcemiaaGreatDoorFa
import Derived.Test.YtcllhgajdcemiaaGreatDoorGa
import Derived.Test.YtcllhgajdcemiaaGreatDoorFb
import Derived.Test.YtcllhgajdcemiaaGreatDoorFSame
import Derived.Test.YtcllhgajdcemiaaGreatDoorFLog
import Derived.IntWalk
namespace Go.Proofs.YtcllhgajdcemiaaGreatDoor.jb
open Go.Lib
set_option linter.unusedVariables false
/-- how many bytes the character at the head of a string has; 0: there is none. -/
def sizeL : List UInt8 → Nat
  | [] => 0
  | c :: t => if c.toNat < 128 then 1 else if decodeL (c :: t) = (65533, 1) then 0 else (decodeL (c :: t)).2
/-- a string as UTF-8. -/
def cohL : List UInt8 → List UInt8
  | [] => []
  | c :: t => if c.toNat < 128 then c :: cohL t else if decodeL (c :: t) = (65533, 1) then [239, 191, 189] ++ cohL t else (c :: t).take (decodeL (c :: t)).2 ++ cohL (t.drop ((decodeL (c :: t)).2 - 1))
termination_by l => l.length
decreasing_by
  · simp
  · simp
  · simp only [List.length_drop, List.length_cons]; omega

set_option maxRecDepth 100000 in
set_option maxHeartbeats 2000000 in
theorem decodeN_prefix (n n' b0 b1 b2 b3 c1 c2 c3 : Nat) (hne : decodeN n b0 b1 b2 b3 ≠ (65533, 1)) (hnn : (decodeN n b0 b1 b2 b3).2 ≤ n')
    (e1 : 1 < (decodeN n b0 b1 b2 b3).2 → c1 = b1) (e2 : 2 < (decodeN n b0 b1 b2 b3).2 → c2 = b2) (e3 : 3 < (decodeN n b0 b1 b2 b3).2 → c3 = b3) : decodeN n' b0 c1 c2 c3 = decodeN n b0 b1 b2 b3 := by
  by_cases h0 : b0 < 128
  · simp [decodeN, h0]
  by_cases h1 : b0 / 32 = 6 ∧ (1 < n ∧ b1 / 64 = 2)
  · have e : decodeN n b0 b1 b2 b3 = if b0 % 32 * 64 + b1 % 64 ≥ 128 then (b0 % 32 * 64 + b1 % 64, 2) else (65533, 1) := by
      unfold decodeN; rw [if_neg h0, if_pos h1]
    by_cases h2 : b0 % 32 * 64 + b1 % 64 ≥ 128
    · rw [if_pos h2] at e
      rw [e] at hnn e1 ⊢
      have := e1 (Nat.lt_of_sub_pos (by simp))
      subst this
      unfold decodeN
      rw [if_neg h0, if_pos ⟨h1.1, by simp only at hnn; omega, h1.2.2⟩, if_pos h2]
    · rw [if_neg h2] at e
      exact absurd e hne
  by_cases h2 : b0 / 16 = 14 ∧ (1 < n ∧ b1 / 64 = 2) ∧ (2 < n ∧ b2 / 64 = 2)
  · have e : decodeN n b0 b1 b2 b3 = if b0 % 16 * 4096 + b1 % 64 * 64 + b2 % 64 ≥ 2048 ∧ (b0 % 16 * 4096 + b1 % 64 * 64 + b2 % 64 < 55296 ∨ (57344 ≤ b0 % 16 * 4096 + b1 % 64 * 64 + b2 % 64 ∧ b0 % 16 * 4096 + b1 % 64 * 64 + b2 % 64 ≤ 1114111)) then (b0 % 16 * 4096 + b1 % 64 * 64 + b2 % 64, 3) else (65533, 1) := by
      unfold decodeN; rw [if_neg h0, if_neg h1, if_pos h2]
    split at e
    · rename_i h3
      rw [e] at hnn e1 e2 ⊢
      have := e1 (Nat.lt_of_sub_pos (by simp))
      subst this
      have := e2 (Nat.lt_of_sub_pos (by simp))
      subst this
      simp only at hnn
      unfold decodeN
      rw [if_neg h0, if_neg (by omega), if_pos ⟨h2.1, ⟨by omega, h2.2.1.2⟩, by omega, h2.2.2.2⟩, if_pos h3]
    · exact absurd e hne
  by_cases h3 : b0 / 8 = 30 ∧ (1 < n ∧ b1 / 64 = 2) ∧ (2 < n ∧ b2 / 64 = 2) ∧ (3 < n ∧ b3 / 64 = 2)
  · have e : decodeN n b0 b1 b2 b3 = if b0 % 8 * 262144 + b1 % 64 * 4096 + b2 % 64 * 64 + b3 % 64 ≥ 65536 ∧ (b0 % 8 * 262144 + b1 % 64 * 4096 + b2 % 64 * 64 + b3 % 64 < 55296 ∨ (57344 ≤ b0 % 8 * 262144 + b1 % 64 * 4096 + b2 % 64 * 64 + b3 % 64 ∧ b0 % 8 * 262144 + b1 % 64 * 4096 + b2 % 64 * 64 + b3 % 64 ≤ 1114111)) then (b0 % 8 * 262144 + b1 % 64 * 4096 + b2 % 64 * 64 + b3 % 64, 4) else (65533, 1) := by
      unfold decodeN; rw [if_neg h0, if_neg h1, if_neg h2, if_pos h3]
    split at e
    · rename_i h4
      rw [e] at hnn e1 e2 e3 ⊢
      have := e1 (Nat.lt_of_sub_pos (by simp))
      subst this
      have := e2 (Nat.lt_of_sub_pos (by simp))
      subst this
      have := e3 (Nat.lt_of_sub_pos (by simp))
      subst this
      simp only at hnn
      unfold decodeN
      rw [if_neg h0, if_neg (by omega), if_neg (by omega), if_pos ⟨h3.1, ⟨by omega, h3.2.1.2⟩, ⟨by omega, h3.2.2.1.2⟩, by omega, h3.2.2.2.2⟩, if_pos h4]
    · exact absurd e hne
  exact absurd (by unfold decodeN; rw [if_neg h0, if_neg h1, if_neg h2, if_neg h3]) hne

theorem getD_app_left (a b : List UInt8) (i : Nat) (h : i < a.length) : (a ++ b).getD i 0 = a.getD i 0 := by
  rw [List.getD_eq_getElem?_getD, List.getD_eq_getElem?_getD, List.getElem?_append_left h]

/-- the decoding looks at no byte behind the rune. -/
theorem decodeL_prefix (l m : List UInt8) (hl : l ≠ []) (hw : decodeL l ≠ (65533, 1)) : decodeL (l.take (decodeL l).2 ++ m) = decodeL l := by
  have hlen : 0 < l.length := List.length_pos_iff.2 hl
  have hle : (decodeL l).2 ≤ l.length := by rw [decodeL_N]; exact decodeN_width_le _ _ _ _ _ hlen
  have h1 : 1 ≤ (decodeL l).2 := by rw [decodeL_N]; exact decodeN_ge1 _ _ _ _ _
  generalize hwd : (decodeL l).2 = wd at *
  have hlt : (l.take wd).length = wd := by rw [List.length_take]; omega
  have hg : ∀ i, i < wd → (l.take wd ++ m).getD i 0 = l.getD i 0 := fun i hi => by
    rw [getD_app_left _ _ _ (by omega), getD_takeU _ _ _ hi]
  have e0 := hg 0 (by omega)
  rw [decodeL_N] at hw hwd
  have := decodeN_prefix l.length (l.take wd ++ m).length (l.getD 0 0).toNat (l.getD 1 0).toNat (l.getD 2 0).toNat (l.getD 3 0).toNat ((l.take wd ++ m).getD 1 0).toNat ((l.take wd ++ m).getD 2 0).toNat ((l.take wd ++ m).getD 3 0).toNat hw (by rw [List.length_append]; omega)
    (fun h => by rw [hg 1 (by omega)]) (fun h => by rw [hg 2 (by omega)]) (fun h => by rw [hg 3 (by omega)])
  rw [decodeL_N, decodeL_N, e0]
  exact this

theorem cohL_nil : cohL [] = [] := by rw [cohL]
theorem cohL_ascii (c : UInt8) (t : List UInt8) (h : c.toNat < 128) : cohL (c :: t) = c :: cohL t := by rw [cohL, if_pos h]
theorem cohL_bad (c : UInt8) (t : List UInt8) (h : ¬ c.toNat < 128) (hd : decodeL (c :: t) = (65533, 1)) : cohL (c :: t) = [239, 191, 189] ++ cohL t := by rw [cohL, if_neg h, if_pos hd]
theorem cohL_rune (c : UInt8) (t : List UInt8) (h : ¬ c.toNat < 128) (hd : ¬ decodeL (c :: t) = (65533, 1)) : cohL (c :: t) = (c :: t).take (decodeL (c :: t)).2 ++ cohL (t.drop ((decodeL (c :: t)).2 - 1)) := by rw [cohL, if_neg h, if_neg hd]

theorem sizeL_ascii (c : UInt8) (t : List UInt8) (h : c.toNat < 128) : sizeL (c :: t) = 1 := by rw [sizeL, if_pos h]
/-- behind a whole character anything may stand. -/
theorem sizeL_rune (c : UInt8) (t m : List UInt8) (h : ¬ c.toNat < 128) (hd : ¬ decodeL (c :: t) = (65533, 1)) : sizeL ((c :: t).take (decodeL (c :: t)).2 ++ m) = (decodeL (c :: t)).2 := by
  have e := decodeL_prefix (c :: t) m (by simp) hd
  have h1 : 1 ≤ (decodeL (c :: t)).2 := by rw [decodeL_N]; exact decodeN_ge1 _ _ _ _ _
  generalize hwd : (decodeL (c :: t)).2 = wd at *
  obtain ⟨k, rfl⟩ : ∃ k, wd = k + 1 := ⟨wd - 1, by omega⟩
  rw [List.take_succ_cons, List.cons_append] at e ⊢
  rw [sizeL, if_neg h, e, if_neg hd, hwd]
theorem sizeL_fffd (m : List UInt8) : sizeL ([239, 191, 189] ++ m) = 3 := by
  have e : decodeL ([239, 191, 189] ++ m) = (65533, 3) := by
    rw [decodeL_N]
    simp only [List.cons_append, List.nil_append, List.getD_cons_zero, List.getD_cons_succ]
    have hn : 2 < (239 :: 191 :: 189 :: m : List UInt8).length := by simp
    generalize (239 :: 191 :: 189 :: m : List UInt8).length = n at hn
    show decodeN n 239 191 189 (m.getD 0 0).toNat = (65533, 3)
    unfold decodeN
    rw [if_neg (by decide), if_neg (by omega), if_pos ⟨by decide, ⟨by omega, by decide⟩, hn, by decide⟩, if_pos (by decide)]
  rw [List.cons_append, sizeL, if_neg (by decide), ← List.cons_append, e]
  rfl

/-- what is written (left) is read as (right). -/
inductive Rd : List UInt8 → List UInt8 → Prop
  | nil : Rd [] []
  | plain (c : UInt8) (x t o : List UInt8) (h1 : 32 ≤ c.toNat) (h2 : c ≠ 34) (h3 : c ≠ 92) (hs : ∀ m, sizeL (c :: (x ++ m)) = x.length + 1) (h : Rd t o) : Rd (c :: (x ++ t)) (c :: (x ++ o))
  | esc (c d : UInt8) (t o : List UInt8) (hc : c = 34 ∧ d = 34 ∨ c = 92 ∧ d = 92 ∨ c = 110 ∧ d = 10 ∨ c = 114 ∧ d = 13 ∨ c = 116 ∧ d = 9) (h : Rd t o) : Rd (92 :: c :: t) (d :: o)
  | ctl (c : UInt8) (t o : List UInt8) (hc : c.toNat < 32) (h : Rd t o) : Rd (92 :: 117 :: 48 :: 48 :: hexd (c.toNat / 16) :: hexd (c.toNat % 16) :: t) (c :: o)
  | sep (d : UInt8) (t o : List UInt8) (hd : d = 8 ∨ d = 9) (h : Rd t o) : Rd (92 :: 117 :: 50 :: 48 :: 50 :: (48 + d) :: t) (226 :: 128 :: (160 + d) :: o)

theorem rd_ascii (c : UInt8) (hc : c.toNat < 128) (t o : List UInt8) (h : Rd t o) : Rd (escA c ++ t) (c :: o) := by
  unfold escA
  split
  · rename_i hs
    unfold safeB at hs
    simp only [Bool.and_eq_true, decide_eq_true_eq] at hs
    exact .plain c [] t o hs.1 (fun e => by subst e; exact hs.2.2.1 rfl) (fun e => by subst e; exact hs.2.2.2 rfl) (fun m => by rw [List.nil_append]; exact sizeL_ascii c m hc) h
  · rename_i hs
    have key : ∀ n : Nat, n < 256 → c.toNat = n → c = UInt8.ofNat n := fun n hn e => by rw [← e]; simp
    split
    · rename_i h2
      rcases h2 with h2 | h2
      · have := key _ (by decide) h2; subst this; exact .esc 92 92 t o (by simp) h
      · have := key _ (by decide) h2; subst this; exact .esc 34 34 t o (by simp) h
    · rename_i h2
      split
      · rename_i h3; have := key _ (by decide) h3; subst this; exact .esc 110 10 t o (by simp) h
      · split
        · rename_i h3; have := key _ (by decide) h3; subst this; exact .esc 114 13 t o (by simp) h
        · split
          · rename_i h3; have := key _ (by decide) h3; subst this; exact .esc 116 9 t o (by simp) h
          · refine .ctl c t o ?_ h
            unfold safeB at hs
            simp only [Bool.and_eq_true, decide_eq_true_eq] at hs
            omega

theorem getD_byte (l : List UInt8) (i : Nat) : (l.getD i 0).toNat < 256 := UInt8.toNat_lt _
theorem u8_eq (c : UInt8) (n : Nat) (hn : n < 256) (e : c.toNat = n) : c = UInt8.ofNat n := by rw [← e]; simp

set_option maxHeartbeats 2000000 in
theorem decodeN_sep (n b0 b1 b2 b3 : Nat) (h0 : b0 < 256) (h1 : b1 < 256) (h2 : b2 < 256) (h3 : b3 < 256) (r w : Nat) (hr : r = 8232 ∨ r = 8233) (e : decodeN n b0 b1 b2 b3 = (r, w)) (hb : ¬ b0 < 128) : b0 = 226 ∧ b1 = 128 ∧ b2 = 160 + r % 16 ∧ w = 3 ∧ 2 < n := by
  unfold decodeN at e
  repeat' split at e
  all_goals (injection e with e1 e2)
  all_goals omega

theorem rd_sep (c : UInt8) (t : List UInt8) (hc : ¬ c.toNat < 128) (hr : (decodeL (c :: t)).1 = 8232 ∨ (decodeL (c :: t)).1 = 8233) :
    ∃ d, (d = 8 ∨ d = 9) ∧ (decodeL (c :: t)).2 = 3 ∧ (c :: t).take 3 = [226, 128, 160 + d] ∧ hexd ((decodeL (c :: t)).1 % 16) = 48 + d := by
  have e := decodeL_N (c :: t)
  generalize hp : decodeL (c :: t) = p at *
  obtain ⟨r, w⟩ := p
  have := decodeN_sep _ _ _ _ _ (getD_byte _ _) (getD_byte _ _) (getD_byte _ _) (getD_byte _ _) r w hr e.symm (by simpa using hc)
  obtain ⟨q0, q1, q2, q3, q4⟩ := this
  cases t with
  | nil => simp at q4
  | cons c1 t =>
    cases t with
    | nil => simp at q4
    | cons c2 t =>
      simp only [List.getD_cons_zero, List.getD_cons_succ] at q0 q1 q2
      have e0 := u8_eq c 226 (by decide) q0
      have e1 := u8_eq c1 128 (by decide) q1
      subst e0 e1
      rcases hr with hr | hr
      · simp only at hr
        subst hr
        have e2 := u8_eq c2 168 (by decide) q2
        subst e2
        exact ⟨8, .inl rfl, q3, rfl, by show hexd (8232 % 16) = 48 + 8; decide⟩
      · simp only at hr
        subst hr
        have e2 := u8_eq c2 169 (by decide) q2
        subst e2
        exact ⟨9, .inr rfl, q3, rfl, by show hexd (8233 % 16) = 48 + 9; decide⟩

/-- EVERY STRING AS IT IS WRITTEN IS READ AS ITSELF IN UTF-8. -/
theorem rd_esc : ∀ (n : Nat) (l : List UInt8), l.length ≤ n → Rd (escL l) (cohL l) := by
  intro n
  induction n with
  | zero =>
    intro l hl
    have : l = [] := List.eq_nil_of_length_eq_zero (by omega)
    subst this
    rw [escL_nil, cohL_nil]
    exact .nil
  | succ n ih =>
    intro l hl
    cases l with
    | nil => rw [escL_nil, cohL_nil]; exact .nil
    | cons c t =>
      simp only [List.length_cons] at hl
      by_cases hc : c.toNat < 128
      · rw [escL_ascii c t hc, cohL_ascii c t hc]
        exact rd_ascii c hc _ _ (ih t (by omega))
      · have h34 : c ≠ 34 := fun e => by subst e; exact hc (by decide)
        have h92 : c ≠ 92 := fun e => by subst e; exact hc (by decide)
        rw [escL_rune c t hc]
        have ih' := ih (t.drop ((decodeL (c :: t)).2 - 1)) (by rw [List.length_drop]; omega)
        unfold escR
        by_cases hd : decodeL (c :: t) = (65533, 1)
        · rw [cohL_bad c t hc hd]
          rw [hd] at ih' ⊢
          rw [if_pos ⟨rfl, rfl⟩]
          exact .plain 239 [191, 189] _ _ (by decide) (by decide) (by decide) (fun m => sizeL_fffd m) ih'
        · rw [cohL_rune c t hc hd]
          rw [if_neg (fun h => hd (Prod.ext h.1 h.2))]
          by_cases hr : (decodeL (c :: t)).1 = 8232 ∨ (decodeL (c :: t)).1 = 8233
          · rw [if_pos hr]
            obtain ⟨d, hd8, hw, ht, hx⟩ := rd_sep c t hc hr
            rw [hx, hw, ht]
            rw [hw] at ih'
            exact .sep d _ _ hd8 ih'
          · rw [if_neg hr]
            have h1 := decodeL_ge1 (c :: t)
            have hs := fun m => sizeL_rune c t m hc hd
            have hle := decodeL_le c t
            generalize (decodeL (c :: t)).2 = wd at *
            obtain ⟨k, rfl⟩ : ∃ k, wd = k + 1 := ⟨wd - 1, by omega⟩
            have hk : (t.take k).length = k := by rw [List.length_take]; simp at hle; omega
            rw [List.take_succ_cons, List.cons_append, List.cons_append]
            exact .plain c (t.take k) _ _ (by omega) h34 h92 (fun m => by have := hs m; rw [List.take_succ_cons, List.cons_append] at this; rw [this, hk]) ih'
end Go.Proofs.YtcllhgajdcemiaaGreatDoor.jb

namespace Go.Proofs.YtcllhgajdcemiaaGreatDoor.jb
open Go.RowKit Go.Lib Go.Proofs.YtcllhgajdcemiaaGreatDoor.PFnJSONBack Go.Proofs.YtcllhgajdcemiaaGreatDoorW.PrintWords
set_option linter.unusedVariables false
theorem bt_get (s : ByteArray) (i : Nat) : bt s (i : Int) = ((s.data.toList.getD i 0).toNat : Int) := by
  unfold bt
  simp only [Int.toNat_natCast]
  split
  · rename_i h
    have : s.data.toList.getD i 0 = s[i] := by
      rw [List.getD_eq_getElem?_getD, List.getElem?_eq_getElem (by rw [Array.length_toList]; exact h)]
      rfl
    rw [this]
  · rename_i h
    rw [List.getD_eq_getElem?_getD, List.getElem?_eq_none (by rw [Array.length_toList]; exact Nat.le_of_not_lt h)]
    rfl
theorem wraps_i64 (n : Int) (h₀ : 0 ≤ n) (h₁ : n < 2 ^ 63) : IntKind.i64.wrap n = n := by rw [IntKind.wrap_i64]; omega
theorem i64_low5 (x : Int) (h₀ : 0 ≤ x) (h₁ : x < 256) : Go.bits .and .i64 x 31 = x % 32 := bits_mask .i64 63 (by decide) wraps_i64 5 (by decide) x h₀ (by omega)
theorem i64_low4 (x : Int) (h₀ : 0 ≤ x) (h₁ : x < 256) : Go.bits .and .i64 x 15 = x % 16 := bits_mask .i64 63 (by decide) wraps_i64 4 (by decide) x h₀ (by omega)
theorem i64_low3 (x : Int) (h₀ : 0 ≤ x) (h₁ : x < 256) : Go.bits .and .i64 x 7 = x % 8 := bits_mask .i64 63 (by decide) wraps_i64 3 (by decide) x h₀ (by omega)
theorem u8_top2 : ∀ n : Nat, n < 256 → (Go.bits .and .u8 (n : Int) 192 = 128 ↔ n / 64 = 2) := by decide +kernel
theorem i64_join (x y : Int) (hx : 0 ≤ x) (hx1 : x < 2 ^ 20) (hy : 0 ≤ y) (hy1 : y < 64) : Go.bits .or .i64 (x * 64) y = x * 64 + y :=
  bits_join .i64 63 (by decide) wraps_i64 6 (x * 64) y (by omega) (by omega) (by omega) hy hy1 (by omega)
theorem wrap64_small (x : Int) (h0 : 0 ≤ x) (h1 : x < 2 ^ 40) : wrap64 x = x := by unfold wrap64; omega
section
variable (s : ByteArray)
theorem size_step (k x n low i : Nat) (hx : x < 2 ^ 20) (hi : i < n) (hs : i < s.size) (hn : n < 10) :
    spec_size.l0 (k + 1) s x n low i = if (s.data.toList.getD i 0).toNat / 64 = 2 then spec_size.l0 k s ((x * 64 + (s.data.toList.getD i 0).toNat % 64 : Nat) : Int) n low ((i + 1 : Nat) : Int) else some 0 := by
  have hb : (s.data.toList.getD i 0).toNat < 256 := UInt8.toNat_lt _
  rw [spec_size.l0, if_pos (by omega), if_pos (by omega), if_pos (by omega), bt_get]
  generalize (s.data.toList.getD i 0).toNat = b at *
  have e := u8_top2 b hb
  by_cases h : b / 64 = 2
  · rw [if_pos (e.2 h), if_pos h, u8_and63 _ (by omega) (by omega), wrap64_small (x * 64) (by omega) (by omega), wrap64_small ((b : Int) % 64) (by omega) (by omega), i64_join _ _ (by omega) (by omega) (by omega) (by omega), wrap64_small _ (by omega) (by omega)]
    congr 1
  · rw [if_neg (fun h' => h (e.1 h')), if_neg h]
theorem size_end (k x n low : Nat) : spec_size.l0 (k + 1) s x n low n = if x < low ∨ 1114111 < x ∨ (55296 ≤ x ∧ x ≤ 57343) then some 0 else some (n : Int) := by
  rw [spec_size.l0, if_neg (by omega)]
  by_cases h1 : x < low
  · rw [if_pos (by omega), if_pos (.inl h1)]
  · rw [if_neg (by omega)]
    by_cases h2 : 1114111 < x
    · rw [if_pos (by omega), if_pos (.inr (.inl h2))]
    · rw [if_neg (by omega)]
      by_cases h3 : 55296 ≤ x
      · rw [if_pos (by omega)]
        by_cases h4 : x ≤ 57343
        · rw [if_pos (by omega), if_pos (.inr (.inr ⟨h3, h4⟩))]
        · rw [if_neg (by omega), if_neg (by omega)]
      · rw [if_neg (by omega), if_neg (by omega)]
end
/-- the length by the bytes. -/
def sizeN (n b0 b1 b2 b3 : Nat) : Nat :=
  if b0 < 128 then 1
  else if b0 < 194 then 0
  else if b0 < 224 then (if n < 2 then 0 else if b1 / 64 = 2 then (if b0 % 32 * 64 + b1 % 64 < 128 then 0 else 2) else 0)
  else if b0 < 240 then (if n < 3 then 0 else if b1 / 64 = 2 then (if b2 / 64 = 2 then (if (b0 % 16 * 64 + b1 % 64) * 64 + b2 % 64 < 2048 ∨ 1114111 < (b0 % 16 * 64 + b1 % 64) * 64 + b2 % 64 ∨ (55296 ≤ (b0 % 16 * 64 + b1 % 64) * 64 + b2 % 64 ∧ (b0 % 16 * 64 + b1 % 64) * 64 + b2 % 64 ≤ 57343) then 0 else 3) else 0) else 0)
  else if b0 < 245 then (if n < 4 then 0 else if b1 / 64 = 2 then (if b2 / 64 = 2 then (if b3 / 64 = 2 then (if ((b0 % 8 * 64 + b1 % 64) * 64 + b2 % 64) * 64 + b3 % 64 < 65536 ∨ 1114111 < ((b0 % 8 * 64 + b1 % 64) * 64 + b2 % 64) * 64 + b3 % 64 ∨ (55296 ≤ ((b0 % 8 * 64 + b1 % 64) * 64 + b2 % 64) * 64 + b3 % 64 ∧ ((b0 % 8 * 64 + b1 % 64) * 64 + b2 % 64) * 64 + b3 % 64 ≤ 57343) then 0 else 4) else 0) else 0) else 0)
  else 0
theorem ite_some (p : Prop) [Decidable p] (a b : Int) : (if p then some a else some b) = some (if p then a else b) := by split <;> rfl
theorem size_f (k : Nat) (s : ByteArray) (h0 : 0 < s.size) :
    spec_size.f (k + 8) s = some (sizeN s.size (s.data.toList.getD 0 0).toNat (s.data.toList.getD 1 0).toNat (s.data.toList.getD 2 0).toNat (s.data.toList.getD 3 0).toNat : Int) := by
  have hb0 : (s.data.toList.getD 0 0).toNat < 256 := UInt8.toNat_lt _
  have e0 : bt s 0 = ((s.data.toList.getD 0 0).toNat : Int) := bt_get s 0
  unfold spec_size.f
  rw [if_pos (by omega), e0, wrap64_small _ (by omega) (by omega)]
  have st := size_step s
  have en := size_end s
  generalize s.data.toList.getD 0 0 = c0 at *
  generalize hb : c0.toNat = b0 at *
  unfold sizeN
  by_cases h1 : b0 < 128
  · rw [if_pos (by omega), if_pos h1]; rfl
  rw [if_neg (by omega), if_neg h1]
  have j0 : ∀ x, spec_size.j0 (k + 8) s x false = if x ≥ 224 then (spec_size.j1 (k + 7) s x (decide (x < 240))) else (spec_size.j1 (k + 7) s x false) := fun x => by rw [spec_size.j0, if_neg (by decide)]
  have j1 : ∀ x, spec_size.j1 (k + 7) s x false = if x ≥ 240 then (if x < 245 then (spec_size.j2 (k + 6) s (Go.bits .and .i64 x 7) 4 65536) else (some 0)) else (some 0) := fun x => by rw [spec_size.j1, if_neg (by decide)]
  have j2 : ∀ k x y z, spec_size.j2 (k + 1) s x y z = if (s.size : Int) < y then some 0 else spec_size.l0 k s x y z 1 := fun k x y z => by rw [spec_size.j2]
  by_cases h2 : b0 < 194
  · rw [if_neg (by omega), if_pos h2, j0, if_neg (by omega), j1, if_neg (by omega)]; rfl
  rw [if_pos (by omega), if_neg h2]
  by_cases h3 : b0 < 224
  · rw [if_pos h3, show decide ((b0 : Int) < 224) = true from decide_eq_true (by omega), spec_size.j0, if_pos rfl, j2, i64_low5 _ (by omega) (by omega)]
    by_cases h4 : s.size < 2
    · rw [if_pos (by omega), if_pos h4]; rfl
    rw [if_neg (by omega), if_neg h4]
    have a1 := st (k + 5) (b0 % 32) 2 128 1 (by omega) (by omega) (by omega) (by omega)
    have a2 := en (k + 4) (b0 % 32 * 64 + (s.data.toList.getD 1 0).toNat % 64) 2 128
    refine Eq.trans a1 ?_
    by_cases h5 : (s.data.toList.getD 1 0).toNat / 64 = 2
    · rw [if_pos h5, if_pos h5]
      refine Eq.trans a2 ?_
      have hm : (s.data.toList.getD 1 0).toNat % 64 < 64 := Nat.mod_lt _ (by decide)
      by_cases h6 : b0 % 32 * 64 + (s.data.toList.getD 1 0).toNat % 64 < 128
      · rw [if_pos (.inl h6), if_pos h6]; rfl
      · rw [if_neg (by omega), if_neg h6]
    · rw [if_neg h5, if_neg h5]; rfl
  rw [if_neg h3, show decide ((b0 : Int) < 224) = false from decide_eq_false (by omega), j0, if_pos (by omega)]
  by_cases h4 : b0 < 240
  · rw [if_pos h4, show decide ((b0 : Int) < 240) = true from decide_eq_true (by omega), spec_size.j1, if_pos rfl, j2, i64_low4 _ (by omega) (by omega)]
    by_cases h5 : s.size < 3
    · rw [if_pos (by omega), if_pos h5]; rfl
    rw [if_neg (by omega), if_neg h5]
    have m1 : (s.data.toList.getD 1 0).toNat % 64 < 64 := Nat.mod_lt _ (by decide)
    have a1 := st (k + 4) (b0 % 16) 3 2048 1 (by omega) (by omega) (by omega) (by omega)
    have a2 := st (k + 3) (b0 % 16 * 64 + (s.data.toList.getD 1 0).toNat % 64) 3 2048 2 (by omega) (by omega) (by omega) (by omega)
    have a3 := en (k + 2) ((b0 % 16 * 64 + (s.data.toList.getD 1 0).toNat % 64) * 64 + (s.data.toList.getD 2 0).toNat % 64) 3 2048
    refine Eq.trans a1 ?_
    by_cases h6 : (s.data.toList.getD 1 0).toNat / 64 = 2
    · rw [if_pos h6, if_pos h6]
      refine Eq.trans a2 ?_
      by_cases h7 : (s.data.toList.getD 2 0).toNat / 64 = 2
      · rw [if_pos h7, if_pos h7]
        refine Eq.trans a3 ?_
        rw [ite_some]
        split <;> rfl
      · rw [if_neg h7, if_neg h7]; rfl
    · rw [if_neg h6, if_neg h6]; rfl
  rw [if_neg h4, show decide ((b0 : Int) < 240) = false from decide_eq_false (by omega), j1, if_pos (by omega)]
  by_cases h5 : b0 < 245
  · rw [if_pos (by omega), if_pos h5, j2, i64_low3 _ (by omega) (by omega)]
    by_cases h6 : s.size < 4
    · rw [if_pos (by omega), if_pos h6]; rfl
    rw [if_neg (by omega), if_neg h6]
    have m1 : (s.data.toList.getD 1 0).toNat % 64 < 64 := Nat.mod_lt _ (by decide)
    have m2 : (s.data.toList.getD 2 0).toNat % 64 < 64 := Nat.mod_lt _ (by decide)
    have a1 := st (k + 4) (b0 % 8) 4 65536 1 (by omega) (by omega) (by omega) (by omega)
    have a2 := st (k + 3) (b0 % 8 * 64 + (s.data.toList.getD 1 0).toNat % 64) 4 65536 2 (by omega) (by omega) (by omega) (by omega)
    have a3 := st (k + 2) ((b0 % 8 * 64 + (s.data.toList.getD 1 0).toNat % 64) * 64 + (s.data.toList.getD 2 0).toNat % 64) 4 65536 3 (by omega) (by omega) (by omega) (by omega)
    have a4 := en (k + 1) (((b0 % 8 * 64 + (s.data.toList.getD 1 0).toNat % 64) * 64 + (s.data.toList.getD 2 0).toNat % 64) * 64 + (s.data.toList.getD 3 0).toNat % 64) 4 65536
    refine Eq.trans a1 ?_
    by_cases h7 : (s.data.toList.getD 1 0).toNat / 64 = 2
    · rw [if_pos h7, if_pos h7]
      refine Eq.trans a2 ?_
      by_cases h8 : (s.data.toList.getD 2 0).toNat / 64 = 2
      · rw [if_pos h8, if_pos h8]
        refine Eq.trans a3 ?_
        by_cases h9 : (s.data.toList.getD 3 0).toNat / 64 = 2
        · rw [if_pos h9, if_pos h9]
          refine Eq.trans a4 ?_
          rw [ite_some]
          split <;> rfl
        · rw [if_neg h9, if_neg h9]; rfl
      · rw [if_neg h8, if_neg h8]; rfl
    · rw [if_neg h7, if_neg h7]; rfl
  · rw [if_neg (by omega), if_neg h5]; rfl

set_option maxHeartbeats 4000000 in
theorem sizeN_decode (n b0 b1 b2 b3 : Nat) (hn : 1 ≤ n) (h : b0 < 256) (hb : ¬ b0 < 128) : sizeN n b0 b1 b2 b3 = if decodeN n b0 b1 b2 b3 = (65533, 1) then 0 else (decodeN n b0 b1 b2 b3).2 := by
  have key : ∀ p : Nat × Nat, decodeN n b0 b1 b2 b3 = p → sizeN n b0 b1 b2 b3 = (if p = (65533, 1) then 0 else p.2) → sizeN n b0 b1 b2 b3 = if decodeN n b0 b1 b2 b3 = (65533, 1) then 0 else (decodeN n b0 b1 b2 b3).2 := fun p hp hs => by rw [hp]; exact hs
  have bad : decodeN n b0 b1 b2 b3 = (65533, 1) → sizeN n b0 b1 b2 b3 = 0 → sizeN n b0 b1 b2 b3 = if decodeN n b0 b1 b2 b3 = (65533, 1) then 0 else (decodeN n b0 b1 b2 b3).2 := fun hp hs => by rw [hp, hs, if_pos rfl]
  by_cases h1 : b0 < 194
  · refine bad ?_ (by unfold sizeN; rw [if_neg hb, if_pos h1])
    unfold decodeN
    rw [if_neg hb]
    by_cases h2 : b0 / 32 = 6 ∧ (1 < n ∧ b1 / 64 = 2)
    · rw [if_pos h2, if_neg (by omega)]
    · rw [if_neg h2, if_neg (by omega), if_neg (by omega)]
  by_cases h3 : b0 < 224
  · by_cases h2 : 1 < n ∧ b1 / 64 = 2
    · by_cases h4 : b0 % 32 * 64 + b1 % 64 < 128
      · refine bad ?_ ?_
        · unfold decodeN; rw [if_neg hb, if_pos (by omega), if_neg (by omega)]
        · unfold sizeN; rw [if_neg hb, if_neg h1, if_pos h3, if_neg (by omega), if_pos h2.2, if_pos h4]
      · refine key (b0 % 32 * 64 + b1 % 64, 2) ?_ ?_
        · unfold decodeN; rw [if_neg hb, if_pos (by omega), if_pos (by omega)]
        · unfold sizeN; rw [if_neg hb, if_neg h1, if_pos h3, if_neg (by omega), if_pos h2.2, if_neg h4, if_neg (by simp)]
    · refine bad ?_ ?_
      · unfold decodeN; rw [if_neg hb, if_neg (by omega), if_neg (by omega), if_neg (by omega)]
      · unfold sizeN; rw [if_neg hb, if_neg h1, if_pos h3]
        repeat' split
        all_goals first | rfl | (exfalso; omega)
  by_cases h4 : b0 < 240
  · have e : (b0 % 16 * 64 + b1 % 64) * 64 + b2 % 64 = b0 % 16 * 4096 + b1 % 64 * 64 + b2 % 64 := by omega
    by_cases h2 : (1 < n ∧ b1 / 64 = 2) ∧ (2 < n ∧ b2 / 64 = 2)
    · by_cases h5 : b0 % 16 * 4096 + b1 % 64 * 64 + b2 % 64 < 2048 ∨ 1114111 < b0 % 16 * 4096 + b1 % 64 * 64 + b2 % 64 ∨ (55296 ≤ b0 % 16 * 4096 + b1 % 64 * 64 + b2 % 64 ∧ b0 % 16 * 4096 + b1 % 64 * 64 + b2 % 64 ≤ 57343)
      · refine bad ?_ ?_
        · unfold decodeN; rw [if_neg hb, if_neg (by omega), if_pos (by omega), if_neg (by omega)]
        · unfold sizeN; rw [if_neg hb, if_neg h1, if_neg h3, if_pos h4, if_neg (by omega), if_pos h2.1.2, if_pos h2.2.2, e, if_pos h5]
      · refine key (b0 % 16 * 4096 + b1 % 64 * 64 + b2 % 64, 3) ?_ ?_
        · unfold decodeN; rw [if_neg hb, if_neg (by omega), if_pos (by omega), if_pos (by omega)]
        · unfold sizeN; rw [if_neg hb, if_neg h1, if_neg h3, if_pos h4, if_neg (by omega), if_pos h2.1.2, if_pos h2.2.2, e, if_neg h5, if_neg (by simp)]
    · refine bad ?_ ?_
      · unfold decodeN; rw [if_neg hb, if_neg (by omega), if_neg (by omega), if_neg (by omega)]
      · unfold sizeN; rw [if_neg hb, if_neg h1, if_neg h3, if_pos h4]
        repeat' split
        all_goals first | rfl | (exfalso; omega)
  by_cases h5 : b0 < 245
  · have e : ((b0 % 8 * 64 + b1 % 64) * 64 + b2 % 64) * 64 + b3 % 64 = b0 % 8 * 262144 + b1 % 64 * 4096 + b2 % 64 * 64 + b3 % 64 := by omega
    by_cases h2 : (1 < n ∧ b1 / 64 = 2) ∧ (2 < n ∧ b2 / 64 = 2) ∧ (3 < n ∧ b3 / 64 = 2)
    · have hs : sizeN n b0 b1 b2 b3 = if b0 % 8 * 262144 + b1 % 64 * 4096 + b2 % 64 * 64 + b3 % 64 < 65536 ∨ 1114111 < b0 % 8 * 262144 + b1 % 64 * 4096 + b2 % 64 * 64 + b3 % 64 ∨ (55296 ≤ b0 % 8 * 262144 + b1 % 64 * 4096 + b2 % 64 * 64 + b3 % 64 ∧ b0 % 8 * 262144 + b1 % 64 * 4096 + b2 % 64 * 64 + b3 % 64 ≤ 57343) then 0 else 4 := by
        unfold sizeN; rw [if_neg hb, if_neg h1, if_neg h3, if_neg h4, if_pos h5, if_neg (by omega), if_pos h2.1.2, if_pos h2.2.1.2, if_pos h2.2.2.2, e]
      have hd : decodeN n b0 b1 b2 b3 = if b0 % 8 * 262144 + b1 % 64 * 4096 + b2 % 64 * 64 + b3 % 64 ≥ 65536 ∧ (b0 % 8 * 262144 + b1 % 64 * 4096 + b2 % 64 * 64 + b3 % 64 < 55296 ∨ (57344 ≤ b0 % 8 * 262144 + b1 % 64 * 4096 + b2 % 64 * 64 + b3 % 64 ∧ b0 % 8 * 262144 + b1 % 64 * 4096 + b2 % 64 * 64 + b3 % 64 ≤ 1114111)) then (b0 % 8 * 262144 + b1 % 64 * 4096 + b2 % 64 * 64 + b3 % 64, 4) else (65533, 1) := by
        unfold decodeN; rw [if_neg hb, if_neg (by omega), if_neg (by omega), if_pos ⟨by omega, h2⟩]
      generalize b0 % 8 * 262144 + b1 % 64 * 4096 + b2 % 64 * 64 + b3 % 64 = x at hs hd
      by_cases h6 : x < 65536 ∨ 1114111 < x ∨ (55296 ≤ x ∧ x ≤ 57343)
      · rw [if_pos h6] at hs
        rw [if_neg (by omega)] at hd
        exact bad hd hs
      · rw [if_neg h6] at hs
        rw [if_pos (by omega)] at hd
        exact key _ hd (by rw [hs, if_neg (by simp)])
    · refine bad ?_ ?_
      · unfold decodeN; rw [if_neg hb, if_neg (by omega), if_neg (by omega), if_neg (by omega)]
      · unfold sizeN; rw [if_neg hb, if_neg h1, if_neg h3, if_neg h4, if_pos h5]
        repeat' split
        all_goals first | rfl | (exfalso; omega)
  · refine bad ?_ (by unfold sizeN; rw [if_neg hb, if_neg h1, if_neg h3, if_neg h4, if_neg h5])
    unfold decodeN
    rw [if_neg hb, if_neg (by omega), if_neg (by omega)]
    by_cases h2 : b0 / 8 = 30 ∧ (1 < n ∧ b1 / 64 = 2) ∧ (2 < n ∧ b2 / 64 = 2) ∧ (3 < n ∧ b3 / 64 = 2)
    · rw [if_pos h2, if_neg (by omega)]
    · rw [if_neg h2]
/-- spec.size. -/
theorem size_is (k : Nat) (s : ByteArray) (h0 : 0 < s.size) : spec_size.f (k + 8) s = some (sizeL s.data.toList : Int) := by
  rw [size_f k s h0]
  have hsz : s.size = s.data.toList.length := (Array.length_toList).symm
  rw [hsz] at h0 ⊢
  generalize s.data.toList = l at *
  cases l with
  | nil => simp at h0
  | cons c t =>
    rw [sizeL]
    by_cases hc : c.toNat < 128
    · rw [if_pos hc]
      simp [sizeN, hc]
    · rw [if_neg hc, sizeN_decode _ _ _ _ _ h0 (UInt8.toNat_lt _) (by simpa using hc), ← decodeL_N]
end Go.Proofs.YtcllhgajdcemiaaGreatDoor.jb

namespace Go.Proofs.YtcllhgajdcemiaaGreatDoor.jb
open Go.RowKit Go.Lib Go.Proofs.YtcllhgajdcemiaaGreatDoor.PFnJSONBack
set_option linter.unusedVariables false
set_option linter.unusedSimpArgs false
mutual
/-- the attributes as the package takes them. -/
def logA : S34 → S79
  | ⟨k, v, g, l⟩ => ⟨k, v, g, logL l⟩
def logL : List S34 → List S79
  | [] => []
  | a :: l => logA a :: logL l
end
/-- a group without attributes. -/
def emptyG (a : S102) : Bool := a.f1 == 2 && a.f3.isEmpty
theorem emptyG_group (k s : ByteArray) (l : List S102) : emptyG ⟨k, 2, s, l⟩ = l.isEmpty := by simp [emptyG]
mutual
/-- attributes as attrsOf and GroupValue make them. -/
def ofA : S79 → S102
  | ⟨k, v, g, l⟩ => if g then ⟨k, 2, ⟨#[]⟩, (ofL l).filter (fun a => !emptyG a)⟩ else ⟨k, 1, v, []⟩
def ofL : List S79 → List S102
  | [] => []
  | a :: l => ofA a :: ofL l
end
mutual
/-- attributes as they are shown. -/
def shownA : S34 → List S34
  | ⟨k, v, g, l⟩ => if g then (if (shownL l).isEmpty then [] else if k.size = 0 then shownL l else [⟨k, ⟨#[]⟩, true, shownL l⟩]) else [⟨k, v, false, []⟩]
def shownL : List S34 → List S34
  | [] => []
  | a :: l => shownA a ++ shownL l
end
def nestedL : List S36 → List S34 → List S34
  | [], r => r
  | s :: t, r => if s.f2 then (if s.f0.size = 0 then nestedL t r else [⟨s.f0, ⟨#[]⟩, true, nestedL t r⟩]) else s.f1 ++ nestedL t r
mutual
/-- shown attributes as they are written. -/
def renA : ByteArray → S34 → List UInt8
  | sep, ⟨k, v, g, l⟩ => if g then keyG sep k ++ [123] ++ renL ⟨#[]⟩ l ++ [125] else keyG sep k ++ quo v
def renL : ByteArray → List S34 → List UInt8
  | _, [] => []
  | sep, a :: l => renA sep a ++ renL ⟨#[44]⟩ l
end
/-- what stands between behind a list. -/
def sepL (sep : ByteArray) (l : List S34) : ByteArray := if l.isEmpty then sep else ⟨#[44]⟩
theorem renL_append : ∀ (a b : List S34) (sep : ByteArray), renL sep (a ++ b) = renL sep a ++ renL (sepL sep a) b
  | [], b, sep => by simp [renL, sepL]
  | x :: a, b, sep => by
    rw [List.cons_append]
    simp only [renL]
    rw [renL_append a b]
    have : sepL ⟨#[44]⟩ a = ⟨#[44]⟩ := by unfold sepL; split <;> rfl
    rw [this]
    simp [sepL, List.append_assoc]
theorem sepL_append (sep : ByteArray) (a b : List S34) : sepL (sepL sep a) b = sepL sep (a ++ b) := by
  cases a <;> cases b <;> rfl
theorem outL_cons (sep : ByteArray) (a : S102) (l : List S102) : outL sep (a :: l) = ((outA sep a).1 ++ (outL (outA sep a).2 l).1, (outL (outA sep a).2 l).2) := by rw [outL]
/-- empty groups write nothing. -/
theorem outL_filter : ∀ (l : List S102) (sep : ByteArray), outL sep (l.filter (fun a => !emptyG a)) = outL sep l
  | [], sep => rfl
  | a :: l, sep => by
    cases he : emptyG a with
    | true =>
      rw [List.filter_cons_of_neg (by simp [he]), outL_filter l, outL_cons]
      have : outA sep a = ([], sep) := by
        obtain ⟨k, n, s, m⟩ := a
        unfold emptyG at he
        simp only [Bool.and_eq_true, beq_iff_eq] at he
        unfold outA
        rw [if_pos he.1, if_pos he.2]
      rw [this]
      simp
    | false =>
      rw [List.filter_cons_of_pos (by simp [he]), outL_cons, outL_cons, outL_filter l]
mutual
theorem out_ofA : ∀ (a : S34) (sep : ByteArray), outA sep (ofA (logA a)) = (renL sep (shownA a), sepL sep (shownA a)) ∧ emptyG (ofA (logA a)) = (shownA a).isEmpty
  | ⟨k, v, g, l⟩, sep => by
    cases g with
    | false => 
      simp [logA, ofA, shownA, outA, renL, renA, sepL, emptyG]
    | true =>
      have h1 := out_ofL l sep
      have h2 := out_ofL l ⟨#[]⟩
      simp only [logA, ofA, shownA, if_true]
      have he : ((ofL (logL l)).filter (fun a => !emptyG a)).isEmpty = (shownL l).isEmpty := h1.2
      constructor
      · unfold outA
        rw [if_pos rfl, he, outL_filter, outL_filter, h1.1, h2.1]
        cases hs : (shownL l).isEmpty with
        | true => simp [renL, sepL]
        | false =>
          simp only [Bool.false_eq_true, if_false]
          by_cases hk : k.size = 0
          · rw [if_pos hk, if_pos hk]
          · rw [if_neg hk, if_neg hk]
            simp [renL, renA, sepL]
      · rw [emptyG_group, he]
        cases hs : (shownL l).isEmpty with
        | true => simp
        | false =>
          simp only [Bool.false_eq_true, if_false]
          by_cases hk : k.size = 0
          · rw [if_pos hk, hs]
          · rw [if_neg hk]; rfl
theorem out_ofL : ∀ (l : List S34) (sep : ByteArray), outL sep (ofL (logL l)) = (renL sep (shownL l), sepL sep (shownL l)) ∧ ((ofL (logL l)).filter (fun a => !emptyG a)).isEmpty = (shownL l).isEmpty
  | [], sep => by simp [logL, ofL, shownL, outL, renL, sepL]
  | a :: l, sep => by
    have h1 := out_ofA a sep
    have h2 := out_ofL l (sepL sep (shownA a))
    simp only [logL, ofL, shownL]
    constructor
    · rw [outL_cons, h1.1, h2.1, renL_append, sepL_append]
    · cases he : emptyG (ofA (logA a)) with
      | true =>
        rw [List.filter_cons_of_neg (by simp [he]), h2.2]
        have : shownA a = [] := List.isEmpty_iff.1 (by rw [← h1.2, he])
        rw [this, List.nil_append]
      | false =>
        rw [List.filter_cons_of_pos (by simp [he])]
        have : (shownA a).isEmpty = false := by rw [← h1.2, he]
        cases hs : shownA a with
        | nil => rw [hs] at this; simp at this
        | cons x y => simp
end
/-- no inner group is empty. -/
theorem goodL_of : ∀ (l : List S102), (∀ a, a ∈ l → goodA a = true ∧ fullA a = true) → goodL l = true
  | [], _ => by simp [goodL]
  | a :: l, h => by
    unfold goodL
    rw [(h a (by simp)).1, (h a (by simp)).2, goodL_of l (fun b hb => h b (by simp [hb]))]
    rfl
mutual
theorem good_ofA : ∀ (a : S79), goodA (ofA a) = true
  | ⟨k, v, g, l⟩ => by
    cases g with
    | false => simp [ofA, goodA]
    | true =>
      have h := good_ofL l
      simp only [ofA, if_true]
      unfold goodA
      have : goodL ((ofL l).filter (fun a => !emptyG a)) = true := goodL_of _ (fun a ha => by
        rw [List.mem_filter] at ha
        refine ⟨h a ha.1, ?_⟩
        obtain ⟨k, n, s, m⟩ := a
        have h1 := h _ ha.1
        unfold goodA at h1
        have h2 := ha.2
        unfold emptyG at h2
        unfold fullA
        cases hm : m.isEmpty <;> simp_all)
      rw [this]
      rfl
theorem good_ofL : ∀ (l : List S79), ∀ a, a ∈ ofL l → goodA a = true
  | [], a, h => by simp [ofL] at h
  | b :: l, a, h => by
    rw [ofL] at h
    rcases List.mem_cons.1 h with e | h
    · rw [e]; exact good_ofA b
    · exact good_ofL l a h
end

/-! ## The handler -/
structure Hs where
  bl : List UInt8
  ns : List ByteArray
  k : Nat
def sepH (bl : List UInt8) : ByteArray := if bl.isEmpty then ⟨#[]⟩ else ⟨#[44]⟩
def withG (H : Hs) (n : ByteArray) : Hs := ⟨H.bl, H.ns ++ [n], H.k⟩
def allEmpty (l : List S102) : Bool := (l.filter (fun a => !emptyG a)).isEmpty
def withA (H : Hs) (l : List S102) : Hs :=
  if allEmpty l then H
  else ⟨H.bl ++ ((outG (sepH H.bl) (H.ns.drop H.k)).1 ++ (outL (outG (sepH H.bl) (H.ns.drop H.k)).2 l).1), H.ns, H.ns.length⟩
/-- what stands behind the message, ahead of the last bracket. -/
def restH (H : Hs) (l : List S102) : List UInt8 :=
  (if H.bl.isEmpty then [] else 44 :: H.bl) ++
  (if l.isEmpty then List.replicate H.k 125
   else (outG ⟨#[44]⟩ (H.ns.drop H.k)).1 ++ (outL (outG ⟨#[44]⟩ (H.ns.drop H.k)).2 l).1 ++ List.replicate H.ns.length 125)
def stepH (H : Hs) (s : S36) : Hs :=
  if s.f2 then (if s.f0.size = 0 then H else withG H s.f0) else if s.f1.isEmpty then H else withA H (ofL (logL s.f1))
def preH (H : Hs) : List UInt8 := if H.bl.isEmpty then [] else 44 :: H.bl
theorem shownL_append : ∀ (a b : List S34), shownL (a ++ b) = shownL a ++ shownL b
  | [], b => by simp [shownL]
  | x :: a, b => by simp [shownL, shownL_append a b, List.append_assoc]
theorem keyG_comma (s : ByteArray) : keyG ⟨#[44]⟩ s = 44 :: keyG ⟨#[]⟩ s := by simp [keyG]
theorem renL_comma (l : List S34) (h : l.isEmpty = false) : renL ⟨#[44]⟩ l = 44 :: renL ⟨#[]⟩ l := by
  cases l with
  | nil => simp at h
  | cons a l =>
    obtain ⟨k, v, g, m⟩ := a
    simp only [renL, renA]
    rw [keyG_comma]
    cases g <;> simp
/-- a comma ahead of what is written. -/
theorem out_comma (g : List ByteArray) (l : List S34) (h : l.isEmpty = false) :
    (outG ⟨#[44]⟩ g).1 ++ renL (outG ⟨#[44]⟩ g).2 l = 44 :: ((outG ⟨#[]⟩ g).1 ++ renL (outG ⟨#[]⟩ g).2 l) := by
  cases g with
  | nil => simp only [outG, List.nil_append]; exact renL_comma l h
  | cons n g => simp only [outG]; rw [keyG_comma]; simp
theorem rep_snoc (n : Nat) : List.replicate (n + 1) (125 : UInt8) = 125 :: List.replicate n 125 := rfl
/-- THE HANDLER'S LINE IS THE NESTED, SHOWN ATTRIBUTES. -/
theorem rest_steps (r : List S34) : ∀ (steps : List S36) (H : Hs), H.k ≤ H.ns.length →
    restH (steps.foldl stepH H) ((ofL (logL r)).filter (fun a => !emptyG a)) = preH H ++
      (if (shownL (nestedL steps r)).isEmpty then List.replicate H.k 125
       else (outG ⟨#[44]⟩ (H.ns.drop H.k)).1 ++ renL (outG ⟨#[44]⟩ (H.ns.drop H.k)).2 (shownL (nestedL steps r)) ++ List.replicate H.ns.length 125)
  | [], H, hk => by
    simp only [List.foldl_nil, nestedL]
    unfold restH preH
    rw [(out_ofL r ⟨#[]⟩).2, outL_filter, (out_ofL r _).1]
    rfl
  | s :: t, H, hk => by
    rw [List.foldl_cons]
    obtain ⟨n, asx, g⟩ := s
    simp only [nestedL]
    cases g with
    | true =>
      simp only [if_true]
      by_cases hn : n.size = 0
      · rw [show stepH H ⟨n, asx, true⟩ = H by simp [stepH, hn], if_pos hn]
        exact rest_steps r t H hk
      · rw [show stepH H ⟨n, asx, true⟩ = withG H n by simp [stepH, hn], if_neg hn]
        rw [rest_steps r t (withG H n) (by simp [withG]; omega)]
        simp only [withG, preH, shownL, shownA, if_true, List.append_nil]
        cases hs : (shownL (nestedL t r)).isEmpty with
        | true => simp
        | false =>
          simp only [Bool.false_eq_true, if_false]
          rw [if_neg hn]
          rw [List.drop_append_of_le_length hk, outG_snoc]
          simp only [renL, renA, if_true, List.append_nil, List.length_append, List.length_singleton, List.isEmpty_cons, Bool.false_eq_true, if_false, rep_snoc]
          simp [List.append_assoc]
    | false =>
      simp only [Bool.false_eq_true, if_false]
      cases asx with
      | nil =>
        rw [show stepH H ⟨n, [], false⟩ = H by simp [stepH], List.nil_append]
        exact rest_steps r t H hk
      | cons a asx =>
        rw [show stepH H ⟨n, a :: asx, false⟩ = withA H (ofL (logL (a :: asx))) by simp [stepH], shownL_append]
        have he : allEmpty (ofL (logL (a :: asx))) = (shownL (a :: asx)).isEmpty := (out_ofL _ ⟨#[]⟩).2
        unfold withA
        rw [he]
        generalize a :: asx = l at *
        cases hs : (shownL l).isEmpty with
        | true =>
          simp only [if_true]
          rw [List.isEmpty_iff.1 hs, List.nil_append]
          exact rest_steps r t H hk
        | false =>
          simp only [Bool.false_eq_true, if_false]
          rw [rest_steps r t _ (Nat.le_refl _), (out_ofL l _).1]
          have hne : (shownL l ++ shownL (nestedL t r)).isEmpty = false := by
            cases h : shownL l with
            | nil => rw [h] at hs; simp at hs
            | cons x y => simp
          simp only [hne, Bool.false_eq_true, if_false, List.drop_length, outG, List.nil_append]
          have hpre : preH ⟨H.bl ++ ((outG (sepH H.bl) (H.ns.drop H.k)).1 ++ renL (outG (sepH H.bl) (H.ns.drop H.k)).2 (shownL l)), H.ns, H.ns.length⟩ = preH H ++ ((outG ⟨#[44]⟩ (H.ns.drop H.k)).1 ++ renL (outG ⟨#[44]⟩ (H.ns.drop H.k)).2 (shownL l)) := by
            unfold preH
            have hX := out_comma (H.ns.drop H.k) (shownL l) hs
            cases hb : H.bl with
            | nil =>
              simp only [sepH, List.isEmpty_nil, if_true, List.nil_append]
              rw [hX]
              have : ((outG ⟨#[]⟩ (H.ns.drop H.k)).1 ++ renL (outG ⟨#[]⟩ (H.ns.drop H.k)).2 (shownL l)).isEmpty = false := by
                cases hx : shownL l with
                | nil => rw [hx] at hs; simp at hs
                | cons x y =>
                  obtain ⟨k, v, g, m⟩ := x
                  simp only [renL, renA, keyG, quo]
                  cases g <;> simp
              rw [this]
              rfl
            | cons b bs => simp [sepH]
          rw [hpre, renL_append]
          have hsep : sepL (outG ⟨#[44]⟩ (H.ns.drop H.k)).2 (shownL l) = ⟨#[44]⟩ := by unfold sepL; rw [hs]; rfl
          rw [hsep]
          cases hr : (shownL (nestedL t r)).isEmpty with
          | true => rw [List.isEmpty_iff.1 hr]; simp [renL, List.append_assoc]
          | false => simp [List.append_assoc]

/-! ## The whole line -/
def keyLevelB : ByteArray := ⟨#[108, 101, 118, 101, 108]⟩
def keyMsgB : ByteArray := ⟨#[109, 115, 103]⟩
/-- the members of a line. -/
def membs (lv msg : ByteArray) (S : List S34) : List S34 := ⟨keyLevelB, lv, false, []⟩ :: ⟨keyMsgB, msg, false, []⟩ :: S
def lineJ (lv msg : ByteArray) (H : Hs) (l : List S102) : List UInt8 :=
  [123] ++ (keyG ⟨#[]⟩ keyLevelB ++ quo lv) ++ (keyG ⟨#[44]⟩ keyMsgB ++ quo msg) ++ restH H l ++ [125, 10]
def recOf (r : List S34) : List S102 := (ofL (logL r)).filter (fun a => !emptyG a)
theorem line_is (lv msg : ByteArray) (steps : List S36) (r : List S34) :
    lineJ lv msg (steps.foldl stepH ⟨[], [], 0⟩) (recOf r) = [123] ++ renL ⟨#[]⟩ (membs lv msg (shownL (nestedL steps r))) ++ [125, 10] := by
  unfold lineJ recOf
  rw [rest_steps r steps ⟨[], [], 0⟩ (Nat.le_refl _)]
  simp only [preH, List.isEmpty_nil, if_true, List.nil_append, List.drop_nil, outG, List.replicate_zero, List.append_nil, List.length_nil]
  have : (if (shownL (nestedL steps r)).isEmpty = true then [] else renL ⟨#[44]⟩ (shownL (nestedL steps r))) = renL ⟨#[44]⟩ (shownL (nestedL steps r)) := by
    cases h : shownL (nestedL steps r) with
    | nil => simp [renL]
    | cons a l => simp
  rw [this]
  simp [membs, renL, renA, List.append_assoc]
def cohB (s : ByteArray) : ByteArray := ⟨(cohL s.data.toList).toArray⟩
mutual
/-- attributes with all strings in UTF-8. -/
def utfA : S34 → S34
  | ⟨k, v, g, l⟩ => ⟨cohB k, cohB v, g, utfL l⟩
def utfL : List S34 → List S34
  | [] => []
  | a :: l => utfA a :: utfL l
end
mutual
/-- attributes as Shown makes them: no group is empty. -/
def fineA : S34 → Bool
  | ⟨_, v, g, l⟩ => if g then !l.isEmpty && decide (v = ⟨#[]⟩) && fineL l else l.isEmpty
def fineL : List S34 → Bool
  | [] => true
  | a :: l => fineA a && fineL l
end
theorem fineL_append : ∀ (a b : List S34), fineL (a ++ b) = (fineL a && fineL b)
  | [], b => by simp [fineL]
  | x :: a, b => by simp [fineL, fineL_append a b, Bool.and_assoc]
mutual
theorem fine_shownA : ∀ (a : S34), fineL (shownA a) = true
  | ⟨k, v, g, l⟩ => by
    have h := fine_shownL l
    cases g with
    | false => simp [shownA, fineL, fineA]
    | true =>
      simp only [shownA, if_true]
      cases hs : (shownL l).isEmpty with
      | true => simp [fineL]
      | false =>
        simp only [Bool.false_eq_true, if_false]
        split
        · exact h
        · simp [fineL, fineA, h, hs]
theorem fine_shownL : ∀ (l : List S34), fineL (shownL l) = true
  | [] => by simp [shownL, fineL]
  | a :: l => by rw [shownL, fineL_append, fine_shownA a, fine_shownL l]; rfl
end
theorem fine_membs (lv msg : ByteArray) (l : List S34) : fineL (membs lv msg (shownL l)) = true := by
  simp [membs, fineL, fineA, fine_shownL]

/-! ## One attribute more -/
def noGroups (steps : List S36) : Bool := steps.all fun s => !(s.f2 && decide (0 < s.f0.size))
theorem nested_more (key value : ByteArray) (r : List S34) : ∀ (steps : List S36), noGroups steps = true → nestedL steps (r ++ [⟨key, value, false, []⟩]) = nestedL steps r ++ [⟨key, value, false, []⟩]
  | [], _ => rfl
  | s :: t, h => by
    unfold noGroups at h
    rw [List.all_cons, Bool.and_eq_true] at h
    have ih := nested_more key value r t h.2
    obtain ⟨n, asx, g⟩ := s
    simp only [nestedL]
    cases g with
    | true =>
      have hn : n.size = 0 := by
        have h1 : (!(true && decide (0 < n.size))) = true := h.1
        rw [Bool.true_and, Bool.not_eq_true', decide_eq_false_iff_not] at h1
        omega
      rw [if_pos rfl, if_pos hn, if_pos rfl, if_pos hn]
      exact ih
    | false =>
      simp only [Bool.false_eq_true, if_false]
      rw [ih, List.append_assoc]
theorem shown_more (l : List S34) (key value : ByteArray) : shownL (l ++ [⟨key, value, false, []⟩]) = shownL l ++ [⟨key, value, false, []⟩] := by
  rw [shownL_append]
  simp [shownL, shownA]
theorem membs_append (lv msg : ByteArray) (a b : List S34) : membs lv msg (a ++ b) = membs lv msg a ++ b := rfl
theorem ren_more (lv msg : ByteArray) (S : List S34) (key value : ByteArray) :
    renL ⟨#[]⟩ (membs lv msg (S ++ [⟨key, value, false, []⟩])) = renL ⟨#[]⟩ (membs lv msg S) ++ [44] ++ renL ⟨#[]⟩ [⟨key, value, false, []⟩] := by
  rw [membs_append, renL_append, List.append_assoc]
  congr 1
end Go.Proofs.YtcllhgajdcemiaaGreatDoor.jb

namespace Go.Proofs.YtcllhgajdcemiaaGreatDoor.jb
open Go.RowKit Go.Lib Go.Proofs.YtcllhgajdcemiaaGreatDoor.PFnJSONBack Go.Proofs.YtcllhgajdcemiaaGreatDoorW.PrintWords
set_option linter.unusedVariables false
set_option linter.unusedSimpArgs false
mutual
/-- the weight of a tree. -/
def wtA : S34 → Nat
  | ⟨k, v, _, l⟩ => k.size + v.size + 20 + wtL l
def wtL : List S34 → Nat
  | [] => 0
  | a :: l => wtA a + wtL l
end
theorem wtA_eq (a : S34) : wtA a = a.f0.size + a.f1.size + 20 + wtL a.f3 := by
  obtain ⟨k, v, g, l⟩ := a
  rw [wtA]
theorem wtL_cons (a : S34) (l : List S34) : wtL (a :: l) = wtA a + wtL l := by rw [wtL]
theorem wtL_append : ∀ (a b : List S34), wtL (a ++ b) = wtL a + wtL b
  | [], b => by simp [wtL]
  | x :: a, b => by rw [List.cons_append, wtL_cons, wtL_cons, wtL_append a b]; omega
theorem wtL_length : ∀ l : List S34, 20 * l.length ≤ wtL l
  | [] => by simp
  | a :: l => by
    have := wtL_length l
    rw [wtL_cons, wtA_eq, List.length_cons]
    omega
theorem rd34 (xs : List S34) (i : Nat) (h : i < xs.length) : rd_T34 xs (i : Int) = xs[i] := by
  unfold rd_T34
  rw [Int.toNat_natCast, List.getD_eq_getElem?_getD, List.getElem?_eq_getElem h]
  rfl
theorem next64 (i : Nat) (n : Nat) (h : i < n) (hn : n < 2 ^ 62) : wrap64 ((i : Int) + 1) = ((i + 1 : Nat) : Int) := by
  rw [IntWalk.wrap64_in _ ⟨by omega, by omega⟩]
  simp
mutual
theorem wt_shownA : ∀ a : S34, wtL (shownA a) ≤ wtA a
  | ⟨k, v, g, l⟩ => by
    have := wt_shownL l
    unfold shownA wtA
    split
    · split
      · simp [wtL]
      · split
        · omega
        · simp only [wtL, wtA]
          have : (⟨#[]⟩ : ByteArray).size = 0 := rfl
          omega
    · simp only [wtL, wtA]
      omega
theorem wt_shownL : ∀ l : List S34, wtL (shownL l) ≤ wtL l
  | [] => by simp [shownL, wtL]
  | a :: l => by
    have h1 := wt_shownA a
    have h2 := wt_shownL l
    rw [shownL, wtL_append, wtL]
    omega
end
theorem shown_len (l : List S34) : (shownL l).length ≤ wtL l := by
  have := wtL_length (shownL l)
  have := wt_shownL l
  omega
theorem drop_at {α : Type} (xs : List α) (i : Nat) (h : i < xs.length) : xs.drop i = xs[i] :: xs.drop (i + 1) := List.drop_eq_getElem_cons h
theorem size0 (k : ByteArray) : (k.toList = ([] : List UInt8)) ↔ k.size = 0 := by
  rw [Lib.toList_data, Lib.size_eq]
  exact ⟨fun h => by rw [h]; rfl, fun h => List.eq_nil_of_length_eq_zero h⟩
theorem len0 {α : Type} (l : List α) : ((l.length : Int) = 0) ↔ l.isEmpty = true := by
  cases l with
  | nil => simp
  | cons a l => simp; omega
/-- spec.Shown. -/
theorem shown_f : ∀ k, (∀ l, wtL l + 2 ≤ k → wtL l < 2 ^ 40 → spec_Shown.f k l = some (shownL l)) ∧
    (∀ acc (xs : List S34) (i : Nat), i ≤ xs.length → wtL (xs.drop i) + 1 ≤ k → acc.length + wtL (xs.drop i) < 2 ^ 41 → wtL (xs.drop i) < 2 ^ 40 → xs.length < 2 ^ 62 → spec_Shown.l0 k acc xs (xs.length : Int) (i : Int) = some (acc ++ shownL (xs.drop i)))
  | 0 => ⟨fun l h => by omega, fun acc xs i h1 h2 => by omega⟩
  | k + 1 => by
    obtain ⟨ih0, ih1⟩ := shown_f k
    refine ⟨fun l h hw => ?_, fun acc xs i hi hk hb hw hn => ?_⟩
    · rw [spec_Shown.f]
      have := wtL_length l
      have h0 := ih1 [] l 0 (Nat.zero_le _) (by rw [List.drop_zero]; omega) (by rw [List.drop_zero]; simp; omega) (by rw [List.drop_zero]; omega) (by omega)
      simpa using h0
    · by_cases hlt : i < xs.length
      · rw [spec_Shown.l0, if_pos (by omega), if_pos (by omega), if_pos (by omega), rd34 xs i hlt, next64 i xs.length hlt hn]
        rw [drop_at xs i hlt] at hk hb hw ⊢
        rw [wtL_cons, wtA_eq] at hk hb hw
        have hs := shown_len xs[i].f3
        have hnx : ∀ acc', acc'.length + wtL (xs.drop (i + 1)) < 2 ^ 41 → spec_Shown.l0 k acc' xs (xs.length : Int) ((i + 1 : Nat) : Int) = some (acc' ++ shownL (xs.drop (i + 1))) := fun acc' hb' => ih1 acc' xs (i + 1) hlt (by omega) hb' (by omega) hn
        have hsh : shownL (xs[i] :: xs.drop (i + 1)) = shownA xs[i] ++ shownL (xs.drop (i + 1)) := by rw [shownL]
        rw [hsh]
        have hf := ih0 xs[i].f3 (by omega)
        generalize xs[i] = a at *
        obtain ⟨key, v, g, l⟩ := a
        simp only at hk hb hw hs hf ⊢
        cases g with
        | false =>
          rw [if_neg (by decide), if_pos (by omega), hnx _ (by rw [List.length_append, List.length_singleton]; omega)]
          simp [shownA]
        | true =>
          rw [if_pos rfl, hf (by omega), Option.bind_some]
          by_cases he : (shownL l).isEmpty = true
          · rw [if_pos ((len0 _).2 he), hnx _ (by omega)]
            simp [shownA, he]
          · rw [if_neg (fun h => he ((len0 _).1 h))]
            by_cases hk0 : key.size = 0
            · rw [if_pos ((size0 _).2 hk0), if_pos (by omega), hnx _ (by rw [List.length_append]; omega)]
              simp [shownA, he, hk0]
            · rw [if_neg (fun h => hk0 ((size0 _).1 h)), if_pos (by omega), hnx _ (by rw [List.length_append, List.length_singleton]; omega)]
              simp [shownA, he, hk0]
      · have : xs.drop i = [] := List.drop_eq_nil_of_le (by omega)
        rw [spec_Shown.l0, if_neg (by omega), this]
        simp [shownL]

/-! ## spec.Plain -/
mutual
def plainA : S34 → Bool
  | ⟨_, _, g, l⟩ => !g || (plainL l && (l.isEmpty || !(shownL l).isEmpty))
def plainL : List S34 → Bool
  | [] => true
  | a :: l => plainA a && plainL l
end
theorem plain_f : ∀ k, (∀ l, wtL l + 2 ≤ k → wtL l < 2 ^ 40 → spec_Plain.f k l = some (plainL l)) ∧
    (∀ (xs : List S34) (i : Nat), i ≤ xs.length → wtL (xs.drop i) + 1 ≤ k → wtL (xs.drop i) < 2 ^ 40 → xs.length < 2 ^ 62 → spec_Plain.l0 k xs (xs.length : Int) (i : Int) = some (plainL (xs.drop i)))
  | 0 => ⟨fun l h => by omega, fun xs i h1 h2 => by omega⟩
  | k + 1 => by
    obtain ⟨ih0, ih1⟩ := plain_f k
    refine ⟨fun l h hw => ?_, fun xs i hi hk hb hn => ?_⟩
    · rw [spec_Plain.f]
      have := wtL_length l
      have h0 := ih1 l 0 (Nat.zero_le _) (by rw [List.drop_zero]; omega) (by rw [List.drop_zero]; omega) (by omega)
      simpa using h0
    · by_cases hlt : i < xs.length
      · rw [spec_Plain.l0, if_pos (by omega), if_pos (by omega), if_pos (by omega), rd34 xs i hlt, next64 i xs.length hlt hn]
        rw [drop_at xs i hlt] at hk hb ⊢
        rw [wtL_cons, wtA_eq] at hk hb
        have hnx := ih1 xs (i + 1) hlt (by omega) (by omega) hn
        rw [hnx]
        rw [show plainL (xs[i] :: xs.drop (i + 1)) = (plainA xs[i] && plainL (xs.drop (i + 1))) by rw [plainL]]
        have hf := ih0 xs[i].f3 (by omega)
        have hsh := (shown_f k).1 xs[i].f3 (by omega)
        generalize xs[i] = a at *
        obtain ⟨key, v, g, l⟩ := a
        simp only at hk hb hf hsh ⊢
        cases g with
        | false => simp [plainA]
        | true =>
          rw [if_pos rfl, hf (by omega), Option.bind_some]
          cases hp : plainL l with
          | false => simp [plainA, hp]
          | true =>
            rw [if_pos rfl]
            cases hl : l with
            | nil => simp [plainA, plainL]
            | cons x y =>
              rw [← hl, if_pos (by rw [hl]; simp), hsh (by omega), Option.bind_some]
              by_cases he : (shownL l).isEmpty = true
              · rw [if_pos ((len0 _).2 he)]
                simp [plainA, he, hl]
                simp [hl] at he
                simp [he]
              · rw [if_neg (fun h => he ((len0 _).1 h))]
                simp [plainA, hp, he]
      · have : xs.drop i = [] := List.drop_eq_nil_of_le (by omega)
        rw [spec_Plain.l0, if_neg (by omega), this]
        simp [plainL]

/-! ## impl.attrs, impl.log -/
theorem attrs_f : ∀ k, (∀ l, wtL l + 2 ≤ k → wtL l < 2 ^ 40 → impl_attrs.f k l = some (logL l)) ∧
    (∀ acc (xs : List S34) (i : Nat), i ≤ xs.length → wtL (xs.drop i) + 1 ≤ k → acc.length + wtL (xs.drop i) < 2 ^ 41 → wtL (xs.drop i) < 2 ^ 40 → xs.length < 2 ^ 62 → impl_attrs.l0 k acc xs (xs.length : Int) (i : Int) = some (acc ++ logL (xs.drop i)))
  | 0 => ⟨fun l h => by omega, fun acc xs i h1 h2 => by omega⟩
  | k + 1 => by
    obtain ⟨ih0, ih1⟩ := attrs_f k
    refine ⟨fun l h hw => ?_, fun acc xs i hi hk hb hw hn => ?_⟩
    · rw [impl_attrs.f]
      have := wtL_length l
      have h0 := ih1 [] l 0 (Nat.zero_le _) (by rw [List.drop_zero]; omega) (by rw [List.drop_zero]; simp; omega) (by rw [List.drop_zero]; omega) (by omega)
      simpa using h0
    · by_cases hlt : i < xs.length
      · rw [impl_attrs.l0, if_pos (by omega), if_pos (by omega), if_pos (by omega), rd34 xs i hlt, next64 i xs.length hlt hn]
        rw [drop_at xs i hlt] at hk hb hw ⊢
        rw [wtL_cons, wtA_eq] at hk hb hw
        rw [ih0 xs[i].f3 (by omega) (by omega), Option.bind_some, if_pos (by omega), ih1 _ xs (i + 1) hlt (by omega) (by rw [List.length_append, List.length_singleton]; omega) (by omega) hn]
        rw [show logL (xs[i] :: xs.drop (i + 1)) = logA xs[i] :: logL (xs.drop (i + 1)) by rw [logL]]
        generalize xs[i] = a
        obtain ⟨key, v, g, l⟩ := a
        simp [logA]
      · have : xs.drop i = [] := List.drop_eq_nil_of_le (by omega)
        rw [impl_attrs.l0, if_neg (by omega), this]
        simp [logL]
def logS (s : S36) : S59 := ⟨s.f0, logL s.f1, s.f2⟩
def wtS : List S36 → Nat
  | [] => 0
  | s :: t => s.f0.size + 20 + wtL s.f1 + wtS t
theorem wtS_length : ∀ l : List S36, 20 * l.length ≤ wtS l
  | [] => by simp
  | a :: l => by
    have := wtS_length l
    rw [wtS, List.length_cons]
    omega
theorem rd36 (xs : List S36) (i : Nat) (h : i < xs.length) : rd_T36 xs (i : Int) = xs[i] := by
  unfold rd_T36
  rw [Int.toNat_natCast, List.getD_eq_getElem?_getD, List.getElem?_eq_getElem h]
  rfl
theorem log_l : ∀ k acc (xs : List S36) (i : Nat) (lv : Int) (msg : ByteArray) (asx : List S79), i ≤ xs.length → wtS (xs.drop i) + 1 ≤ k → acc.length + wtS (xs.drop i) < 2 ^ 41 → wtS (xs.drop i) < 2 ^ 40 → xs.length < 2 ^ 62 →
    impl_log.l0 k xs (xs.length : Int) (i : Int) lv msg acc asx = some (lv, msg, acc ++ (xs.drop i).map logS, asx)
  | 0, _, _, _, _, _, _ => fun h1 h2 => by omega
  | k + 1, acc, xs, i, lv, msg, asx => fun hi hk hb hw hn => by
    by_cases hlt : i < xs.length
    · rw [impl_log.l0, if_pos (by omega), if_pos (by omega), if_pos (by omega), rd36 xs i hlt, next64 i xs.length hlt hn]
      rw [drop_at xs i hlt] at hk hb hw ⊢
      rw [wtS] at hk hb hw
      rw [(attrs_f k).1 xs[i].f1 (by omega) (by omega), Option.bind_some, if_pos (by omega), log_l k _ xs (i + 1) lv msg asx hlt (by omega) (by rw [List.length_append, List.length_singleton]; omega) (by omega) hn]
      rw [List.append_assoc]
      rfl
    · have : xs.drop i = [] := List.drop_eq_nil_of_le (by omega)
      rw [impl_log.l0, if_neg (by omega), this]
      simp
theorem log_f (k : Nat) (lv : Int) (msg : ByteArray) (steps : List S36) (asx : List S34) (h1 : wtL asx + 2 ≤ k) (h2 : wtL asx < 2 ^ 40) (h3 : wtS steps + 2 ≤ k) (h4 : wtS steps < 2 ^ 40) :
    impl_log.f k lv msg steps asx = some (lv, msg, steps.map logS, logL asx) := by
  have hl := wtS_length steps
  unfold impl_log.f
  rw [(attrs_f k).1 asx h1 h2, Option.bind_some]
  have := log_l k [] steps 0 lv msg (logL asx) (Nat.zero_le _) (by rw [List.drop_zero]; omega) (by rw [List.drop_zero]; simp; omega) (by rw [List.drop_zero]; omega) (by omega)
  simpa using this

/-! ## spec.SameAttrs at one and the same list -/
theorem same_f : ∀ k, (∀ l, wtL l + 2 ≤ k → wtL l < 2 ^ 40 → spec_SameAttrs.f k l l = some true) ∧
    (∀ (xs : List S34) (i : Nat), i ≤ xs.length → wtL (xs.drop i) + 1 ≤ k → wtL (xs.drop i) < 2 ^ 40 → xs.length < 2 ^ 62 → spec_SameAttrs.l0 k xs xs (xs.length : Int) (i : Int) = some true)
  | 0 => ⟨fun l h => by omega, fun xs i h1 h2 => by omega⟩
  | k + 1 => by
    obtain ⟨ih0, ih1⟩ := same_f k
    refine ⟨fun l h hw => ?_, fun xs i hi hk hb hn => ?_⟩
    · rw [spec_SameAttrs.f, if_pos rfl]
      have := wtL_length l
      exact ih1 l 0 (Nat.zero_le _) (by rw [List.drop_zero]; omega) (by rw [List.drop_zero]; omega) (by omega)
    · by_cases hlt : i < xs.length
      · rw [spec_SameAttrs.l0, if_pos (by omega), if_pos (by omega), if_pos (by omega), if_pos (by omega), rd34 xs i hlt, next64 i xs.length hlt hn]
        rw [drop_at xs i hlt] at hk hb
        rw [wtL_cons, wtA_eq] at hk hb
        rw [if_pos rfl, if_pos rfl, if_neg (by simp), ih0 xs[i].f3 (by omega) (by omega), Option.bind_some, if_pos rfl]
        exact ih1 xs (i + 1) hlt (by omega) (by omega) hn
      · rw [spec_SameAttrs.l0, if_neg (by omega)]

/-! ## spec.Coerced, spec.utf8 -/
theorem cohB_toList (s : ByteArray) : (cohB s).data.toList = cohL s.data.toList := by unfold cohB; simp
theorem sizeL_le (c : UInt8) (t : List UInt8) : sizeL (c :: t) ≤ (c :: t).length := by
  rw [sizeL]
  split
  · simp
  · split
    · simp
    · exact decodeL_le c t
theorem coh_step (c : UInt8) (t : List UInt8) : cohL (c :: t) = if sizeL (c :: t) = 0 then [239, 191, 189] ++ cohL t else (c :: t).take (sizeL (c :: t)) ++ cohL ((c :: t).drop (sizeL (c :: t))) := by
  by_cases hc : c.toNat < 128
  · rw [sizeL_ascii c t hc, cohL_ascii c t hc, if_neg (by decide)]
    rfl
  · by_cases hd : decodeL (c :: t) = (65533, 1)
    · rw [cohL_bad c t hc hd]
      rw [sizeL, if_neg hc, if_pos hd, if_pos rfl]
    · have h1 := decodeL_ge1 (c :: t)
      rw [cohL_rune c t hc hd]
      rw [sizeL, if_neg hc, if_neg hd, if_neg (by omega)]
      congr 2
      obtain ⟨n, hn⟩ : ∃ n, (decodeL (c :: t)).2 = n + 1 := ⟨_, (Nat.succ_pred_eq_of_pos h1).symm⟩
      rw [hn]
      rfl
theorem ba_ext {a b : ByteArray} (h : a.data.toList = b.data.toList) : a = b := by
  obtain ⟨⟨a⟩⟩ := a
  obtain ⟨⟨b⟩⟩ := b
  simp at h
  rw [h]
theorem ba_append (a b : ByteArray) : (a ++ b).data.toList = a.data.toList ++ b.data.toList := by simp
/-- spec.Coerced. -/
theorem coerced_l : ∀ (n k : Nat) (s out : ByteArray), s.size ≤ n → n + 9 ≤ k → out.size + 3 * s.size ≤ 9223372036854775807 → spec_Coerced.l0 k s out = some (out ++ cohB s)
  | 0, 0, _, _ => fun _ h2 => by omega
  | n + 1, 0, _, _ => fun _ h2 => by omega
  | 0, k + 1, s, out => fun h1 h2 h3 => by
    have h0 : s.data.toList = [] := List.eq_nil_of_length_eq_zero (by have := Lib.size_eq s; omega)
    rw [spec_Coerced.l0, if_neg (by omega)]
    congr 1
    refine ba_ext ?_
    rw [ba_append, cohB_toList, h0, cohL_nil, List.append_nil]
  | n + 1, k + 1, s, out => fun h1 h2 h3 => by
    have hsz := Lib.size_eq s
    by_cases h0 : s.size = 0
    · have h0 : s.data.toList = [] := List.eq_nil_of_length_eq_zero (by omega)
      rw [spec_Coerced.l0, if_neg (by omega)]
      congr 1
      refine ba_ext ?_
      rw [ba_append, cohB_toList, h0, cohL_nil, List.append_nil]
    · rw [spec_Coerced.l0, if_pos (by omega)]
      obtain ⟨k', rfl⟩ : ∃ k', k = k' + 8 := ⟨k - 8, by omega⟩
      rw [size_is k' s (by omega), Option.bind_some]
      have hcs := fun c t (e : s.data.toList = c :: t) => coh_step c t
      have hle : sizeL s.data.toList ≤ s.data.toList.length := by
        cases h : s.data.toList with
        | nil => exact absurd (by rw [hsz, h]; rfl) h0
        | cons c t => exact sizeL_le c t
      by_cases hz : sizeL s.data.toList = 0
      · have e1 : (s.extract 1 s.size).size = s.size - 1 := by rw [ByteArray.size_extract]; omega
        rw [if_pos (by omega), if_pos (by omega), if_pos (by omega), coerced_l n _ _ _ (by omega) (by omega) (by rw [ByteArray.size_append, e1]; show out.size + 3 + _ ≤ _; omega)]
        congr 1
        refine ba_ext ?_
        rw [ba_append, ba_append, ba_append, cohB_toList, cohB_toList, Lib.extract_data]
        cases h : s.data.toList with
        | nil => exact absurd (by rw [hsz, h]; rfl) h0
        | cons c t =>
          rw [hcs c t h, if_pos (by rw [← h]; exact hz), List.append_assoc]
          congr 2
          rw [List.drop_one, List.tail_cons, List.take_of_length_le (by rw [h, List.length_cons] at hsz; omega)]
      · have e0 : ((sizeL s.data.toList : Int)).toNat = sizeL s.data.toList := Int.toNat_natCast _
        have e1 : (s.extract 0 (sizeL s.data.toList)).size = sizeL s.data.toList := by rw [ByteArray.size_extract]; omega
        have e2 : (s.extract (sizeL s.data.toList) s.size).size = s.size - sizeL s.data.toList := by rw [ByteArray.size_extract]; omega
        rw [if_neg (by omega), if_pos (by omega), if_pos (by omega), e0, e1, if_pos (by omega), coerced_l n _ _ _ (by omega) (by omega) (by rw [ByteArray.size_append, e1, e2]; omega)]
        congr 1
        refine ba_ext ?_
        rw [ba_append, ba_append, ba_append, cohB_toList, cohB_toList, Lib.extract_data, Lib.extract_data]
        cases h : s.data.toList with
        | nil => exact absurd (by rw [hsz, h]; rfl) h0
        | cons c t =>
          rw [hcs c t h, if_neg (by rw [← h]; exact hz), List.append_assoc, ← h]
          congr 2
          rw [List.take_of_length_le (by rw [List.length_drop]; omega)]
theorem coerced_f (k : Nat) (s : ByteArray) (h : s.size + 9 ≤ k) (h2 : s.size < 2 ^ 60) : spec_Coerced.f k s = some (cohB s) := by
  unfold spec_Coerced.f
  rw [coerced_l s.size k s ⟨#[]⟩ (Nat.le_refl _) h (by show 0 + _ ≤ _; omega)]
  congr 1
theorem utf8_f : ∀ k, (∀ l, wtL l + 2 ≤ k → wtL l < 2 ^ 40 → spec_utf8.f k l = some (utfL l)) ∧
    (∀ acc (xs : List S34) (i : Nat), i ≤ xs.length → wtL (xs.drop i) + 1 ≤ k → acc.length + wtL (xs.drop i) < 2 ^ 41 → wtL (xs.drop i) < 2 ^ 40 → xs.length < 2 ^ 62 → spec_utf8.l0 k acc xs (xs.length : Int) (i : Int) = some (acc ++ utfL (xs.drop i)))
  | 0 => ⟨fun l h => by omega, fun acc xs i h1 h2 => by omega⟩
  | k + 1 => by
    obtain ⟨ih0, ih1⟩ := utf8_f k
    refine ⟨fun l h hw => ?_, fun acc xs i hi hk hb hw hn => ?_⟩
    · rw [spec_utf8.f]
      have := wtL_length l
      have h0 := ih1 [] l 0 (Nat.zero_le _) (by rw [List.drop_zero]; omega) (by rw [List.drop_zero]; simp; omega) (by rw [List.drop_zero]; omega) (by omega)
      simpa using h0
    · by_cases hlt : i < xs.length
      · rw [spec_utf8.l0, if_pos (by omega), if_pos (by omega), if_pos (by omega), rd34 xs i hlt, next64 i xs.length hlt hn]
        rw [drop_at xs i hlt] at hk hb hw ⊢
        rw [wtL_cons, wtA_eq] at hk hb hw
        rw [coerced_f k _ (by omega) (by omega), Option.bind_some, coerced_f k _ (by omega) (by omega), Option.bind_some]
        rw [ih0 xs[i].f3 (by omega) (by omega), Option.bind_some, if_pos (by omega), ih1 _ xs (i + 1) hlt (by omega) (by rw [List.length_append, List.length_singleton]; omega) (by omega) hn]
        rw [show utfL (xs[i] :: xs.drop (i + 1)) = utfA xs[i] :: utfL (xs.drop (i + 1)) by rw [utfL]]
        generalize xs[i] = a
        obtain ⟨key, v, g, l⟩ := a
        simp [utfA]
      · have : xs.drop i = [] := List.drop_eq_nil_of_le (by omega)
        rw [spec_utf8.l0, if_neg (by omega), this]
        simp [utfL]
end Go.Proofs.YtcllhgajdcemiaaGreatDoor.jb

namespace Go.Proofs.YtcllhgajdcemiaaGreatDoor.jb
open Go.RowKit Go.Lib Go.Proofs.YtcllhgajdcemiaaGreatDoor.PFnJSONBack Go.Proofs.YtcllhgajdcemiaaGreatDoorW.PrintWords
set_option linter.unusedVariables false
theorem hexd_toNat (n : Nat) (h : n < 16) : (hexd n).toNat = if n < 10 then 48 + n else 87 + n := by
  unfold hexd
  split <;> (rw [UInt8.toNat_ofNat']; omega)
theorem hex_step (k : Nat) (s : ByteArray) (x i n : Nat) (hi : i < 4) (hs : i < s.size) (hb : s.data.toList.getD i 0 = hexd n) (hn : n < 16) (hx : x < 2 ^ 20) :
    ∃ k', k ≤ k' ∧ spec_hex.l0 (k + 3) s x i = spec_hex.l0 k' s ((16 * x + n : Nat) : Int) ((i + 1 : Nat) : Int) := by
  have hv := hexd_toNat n hn
  have e1 : wrap64 (16 * (x : Int)) = 16 * (x : Int) := IntWalk.wrap64_in _ ⟨by omega, by omega⟩
  have e2 : wrap64 ((i : Int) + 1) = (i : Int) + 1 := IntWalk.wrap64_in _ ⟨by omega, by omega⟩
  rw [spec_hex.l0, if_pos (by omega), if_pos (by omega), if_pos (by omega), bt_get, hb, hv]
  by_cases h10 : n < 10
  · rw [if_pos h10]
    refine ⟨k + 1, by omega, ?_⟩
    rw [if_pos (by omega), show decide (((48 + n : Nat) : Int) ≤ 57) = true from decide_eq_true (by omega), spec_hex.j1, if_pos rfl, e1, e2]
    have e3 : (((48 + n : Nat) : Int) - 48) % 256 = n := by omega
    rw [e3, IntWalk.wrap64_in _ ⟨by omega, by omega⟩]
    congr 1
  · rw [if_neg h10]
    refine ⟨k, Nat.le_refl _, ?_⟩
    rw [if_pos (by omega), show decide (((87 + n : Nat) : Int) ≤ 57) = false from decide_eq_false (by omega), spec_hex.j1, if_neg (by decide), if_pos (by omega), show decide (((87 + n : Nat) : Int) ≤ 102) = true from decide_eq_true (by omega), spec_hex.j2, if_pos rfl, e1, e2]
    have e3 : (((87 + n : Nat) : Int) - 97) % 256 + 10 = n := by omega
    rw [e3, IntWalk.wrap64_in _ ⟨by omega, by omega⟩]
    congr 1
/-- four digits. -/
theorem hex_four (s : ByteArray) (n0 n1 n2 n3 : Nat) (hs : 4 ≤ s.size) (h0 : s.data.toList.getD 0 0 = hexd n0) (h1 : s.data.toList.getD 1 0 = hexd n1) (h2 : s.data.toList.getD 2 0 = hexd n2) (h3 : s.data.toList.getD 3 0 = hexd n3) (b0 : n0 < 16) (b1 : n1 < 16) (b2 : n2 < 16) (b3 : n3 < 16) :
    spec_hex.f 13 s = some ((((16 * (16 * (16 * n0 + n1) + n2) + n3 : Nat)) : Int), true) := by
  unfold spec_hex.f
  rw [if_neg (by omega)]
  obtain ⟨k1, hk1, e1⟩ := hex_step 10 s 0 0 n0 (by omega) (by omega) h0 b0 (by omega)
  obtain ⟨m1, rfl⟩ : ∃ m, k1 = m + 10 := ⟨k1 - 10, by omega⟩
  obtain ⟨k2, hk2, e2⟩ := hex_step (m1 + 7) s (16 * 0 + n0) 1 n1 (by omega) (by omega) h1 b1 (by omega)
  obtain ⟨m2, rfl⟩ : ∃ m, k2 = m + 7 := ⟨k2 - 7, by omega⟩
  obtain ⟨k3, hk3, e3⟩ := hex_step (m2 + 4) s (16 * (16 * 0 + n0) + n1) 2 n2 (by omega) (by omega) h2 b2 (by omega)
  obtain ⟨m3, rfl⟩ : ∃ m, k3 = m + 4 := ⟨k3 - 4, by omega⟩
  obtain ⟨k4, hk4, e4⟩ := hex_step (m3 + 1) s (16 * (16 * (16 * 0 + n0) + n1) + n2) 3 n3 (by omega) (by omega) h3 b3 (by omega)
  obtain ⟨m4, rfl⟩ : ∃ m, k4 = m + 1 := ⟨k4 - 1, by omega⟩
  have e5 : spec_hex.l0 (m4 + 1) s ((16 * (16 * (16 * (16 * 0 + n0) + n1) + n2) + n3 : Nat) : Int) ((3 + 1 : Nat) : Int) = some (((16 * (16 * (16 * n0 + n1) + n2) + n3 : Nat) : Int), true) := by
    rw [spec_hex.l0, if_neg (by omega)]
    congr 2
    omega
  exact e1.trans (e2.trans (e3.trans (e4.trans e5)))
end Go.Proofs.YtcllhgajdcemiaaGreatDoor.jb
