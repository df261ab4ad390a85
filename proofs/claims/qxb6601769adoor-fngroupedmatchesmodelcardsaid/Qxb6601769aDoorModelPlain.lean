/-
  THE PLAIN SIDE of the model law: the groups of a thousand, written out, are the digits with commas.
-/
import Derived.Test.Qxb6601769aDoorStrips
namespace Go.Proofs.Qxb6601769aDoor.M
set_option linter.unusedVariables false

def t1 (g : Nat) : UInt8 := UInt8.ofNat (48 + g / 100 % 10)
def t2 (g : Nat) : UInt8 := UInt8.ofNat (48 + g / 10 % 10)
def t3 (g : Nat) : UInt8 := UInt8.ofNat (48 + g % 10)
/-- Lower groups, the least significant first: what they add behind the first group. -/
def ext : List Nat → List UInt8
  | [] => []
  | g :: L => ext L ++ [44] ++ [t1 g] ++ [t2 g] ++ [t3 g]

theorem ext_snoc (L : List Nat) (g : Nat) : ext (L ++ [g]) = [44] ++ [t1 g] ++ [t2 g] ++ [t3 g] ++ ext L := by
  induction L with
  | nil => simp [ext]
  | cons a L ih => rw [List.cons_append, ext, ih]; simp [ext]

theorem com_three (l : List UInt8) (a b c : UInt8) : com (l ++ [a, b, c]) = com l ++ [44, a, b, c] := by
  induction l with
  | nil => simp [com]
  | cons x l ih =>
    rw [List.cons_append, com, com, ih]
    have e : ((l ++ [a, b, c]).length + 1) % 3 = (l.length + 1) % 3 := by simp; omega
    rw [e]
    split <;> simp

theorem grp_three (l : List UInt8) (a b c : UInt8) (h : l ≠ []) : grp (l ++ [a, b, c]) = grp l ++ [44, a, b, c] := by
  cases l with
  | nil => exact absurd rfl h
  | cons x l => simp [grp, com_three]

theorem dec_big {u : Nat} (h : ¬ u < 10) : Lib.decDigits u = Lib.decDigits (u / 10) ++ [UInt8.ofNat (48 + u % 10)] := by rw [Lib.decDigits, dif_neg h]

theorem dec_thousand (W : Nat) (h : 1000 ≤ W) : Lib.decDigits W = Lib.decDigits (W / 1000) ++ [t1 (W % 1000), t2 (W % 1000), t3 (W % 1000)] := by
  rw [dec_big (by omega), dec_big (u := W / 10) (by omega), dec_big (u := W / 10 / 10) (by omega)]
  have e1 : W / 10 / 10 / 10 = W / 1000 := by omega
  have e2 : W / 10 / 10 % 10 = W % 1000 / 100 % 10 := by omega
  have e3 : W / 10 % 10 = W % 1000 / 10 % 10 := by omega
  have e4 : W % 10 = W % 1000 % 10 := by omega
  rw [e1, e2, e3, e4]
  simp [t1, t2, t3]

theorem md_small (W : Nat) (h : W < 1000) : grp (Lib.decDigits W) = Lib.decDigits W := by
  have hl : (Lib.decDigits W).length ≤ 3 := by
    rw [Lib.decDigits_length]
    by_cases h1 : W < 10
    · rw [Lib.nDigits_small h1]; omega
    · rw [Lib.nDigits_big h1]
      by_cases h2 : W / 10 < 10
      · rw [Lib.nDigits_small h2]; omega
      · rw [Lib.nDigits_big h2, Lib.nDigits_small (by omega)]; omega
  match hd : Lib.decDigits W, hl with
  | [], _ => rfl
  | [a], _ => rfl
  | [a, b], _ => simp [grp, com]
  | [a, b, c], _ => simp [grp, com]
  | a :: b :: c :: d :: l, hl => simp at hl

theorem md_big (W : Nat) (h : 1000 ≤ W) : grp (Lib.decDigits W) = grp (Lib.decDigits (W / 1000)) ++ [44, t1 (W % 1000), t2 (W % 1000), t3 (W % 1000)] := by
  rw [dec_thousand W h, grp_three _ _ _ _ (dec_ne_nil _)]

/-- What the groups so far, and what is left of the whole, come to. -/
def Left (W : Nat) (L : List Nat) (r : Nat) : Prop :=
  (r = 0 → ∃ L' gl, L = L' ++ [gl] ∧ gl < 1000 ∧ (∀ g ∈ L', g < 1000) ∧ Lib.decDigits gl ++ ext L' = grp (Lib.decDigits W)) ∧
  (0 < r → (∀ g ∈ L, g < 1000) ∧ grp (Lib.decDigits r) ++ ext L = grp (Lib.decDigits W))

theorem left_start (W : Nat) : Left W [W % 1000] (W / 1000) := by
  constructor
  · intro h
    have hW : W < 1000 := by omega
    exact ⟨[], W % 1000, rfl, by omega, by simp, by rw [Nat.mod_eq_of_lt hW, md_small W hW]; simp [ext]⟩
  · intro h
    refine ⟨by simp; omega, ?_⟩
    rw [md_big W (by omega)]
    simp [ext]

theorem left_step (W : Nat) (L : List Nat) (r : Nat) (h : Left W L r) (hr : 0 < r) : Left W (L ++ [r % 1000]) (r / 1000) := by
  obtain ⟨hall, hm⟩ := h.2 hr
  constructor
  · intro h0
    have hW : r < 1000 := by omega
    exact ⟨L, r % 1000, rfl, by omega, hall, by rw [Nat.mod_eq_of_lt hW, ← hm, md_small r hW]⟩
  · intro h0
    refine ⟨fun g hg => by simp at hg; rcases hg with hg | hg; exact hall g hg; omega, ?_⟩
    rw [← hm, md_big r (by omega), ext_snoc]
    simp

theorem ext_drop (L : List Nat) (j : Nat) (h : j < L.length) : ext (L.drop j) = ext (L.drop (j + 1)) ++ [44] ++ [t1 L[j]] ++ [t2 L[j]] ++ [t3 L[j]] := by
  rw [List.drop_eq_getElem_cons h, ext]

theorem dec_len3 (g : Nat) (h : g < 1000) : (Lib.decDigits g).length ≤ 3 := by
  rw [Lib.decDigits_length]
  by_cases h1 : g < 10
  · rw [Lib.nDigits_small h1]; omega
  · rw [Lib.nDigits_big h1]
    by_cases h2 : g / 10 < 10
    · rw [Lib.nDigits_small h2]; omega
    · rw [Lib.nDigits_big h2, Lib.nDigits_small (by omega)]; omega

/-- zzDecimal's first loop: the digits so far, the last one first. -/
def Rev (u0 u : Nat) (R : List UInt8) : Prop := (0 < u → Lib.decDigits u ++ R.reverse = Lib.decDigits u0) ∧ (u = 0 → R.reverse = Lib.decDigits u0)
theorem rev_step (u0 u : Nat) (R : List UInt8) (h : Rev u0 u R) (hu : 0 < u) : Rev u0 (u / 10) (R ++ [t3 u]) := by
  have hm := h.1 hu
  constructor
  · intro h1
    rw [← hm, dec_big (u := u) (by omega)]
    simp [t3]
  · intro h1
    rw [← hm, Lib.decDigits_one (show u < 10 by omega)]
    simp [t3, Nat.mod_eq_of_lt (show u < 10 by omega)]

theorem t1_val (g : Nat) : ((t1 g).toNat : Int) = 48 + (g : Int) / 100 % 10 := by unfold t1; simp only [UInt8.toNat_ofNat']; omega
theorem t2_val (g : Nat) : ((t2 g).toNat : Int) = 48 + (g : Int) / 10 % 10 := by unfold t2; simp only [UInt8.toNat_ofNat']; omega
theorem t3_val (g : Nat) : ((t3 g).toNat : Int) = 48 + (g : Int) % 10 := by unfold t3; simp only [UInt8.toNat_ofNat']; omega

end Go.Proofs.Qxb6601769aDoor.M
