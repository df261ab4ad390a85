/-
  THE PLAIN SIDE of this seat: what a string's closing is, with no Go in sight.
-/
import Derived.Lib.Bytes
import Derived.Lib.Bytealg
namespace Go.Proofs.Qxb6601636a.J

/-- How many bytes up to the closing quote, it too; a backslash takes the byte behind it. -/
def sc : List Int → Option Nat
  | [] => none
  | [c] => if c = 34 then some 1 else none
  | c :: d :: l => if c = 92 then (sc l).map (· + 2) else if c = 34 then some 1 else (sc (d :: l)).map (· + 1)

def scAt (xs : List Int) (j : Nat) : Int :=
  match sc (xs.drop j) with
  | some n => (j : Int) + n
  | none => -1

def idx : List Int → Int → Int
  | [], _ => -1
  | a :: l, c => if a = c then 0 else if idx l c = -1 then -1 else idx l c + 1

theorem idx_ge (l : List Int) (c : Int) : -1 ≤ idx l c := by
  induction l with
  | nil => simp [idx]
  | cons a l ih => unfold idx; split <;> (try split) <;> omega

theorem idx_lt (l : List Int) (c : Int) : idx l c < l.length := by
  induction l with
  | nil => simp [idx]
  | cons a l ih => unfold idx; simp only [List.length_cons]; split <;> (try split) <;> omega

theorem byte_eq {a c : Int} (ha : 0 ≤ a ∧ a ≤ 255) (hc : 0 ≤ c ∧ c ≤ 255) : ((UInt8.ofNat a.toNat == c.toNat.toUInt8) = true) ↔ a = c := by
  constructor
  · intro h
    have h1 : UInt8.ofNat a.toNat = UInt8.ofNat c.toNat := by simpa using h
    have h2 := congrArg UInt8.toNat h1
    simp at h2
    omega
  · intro h; subst h; simp

theorem indexByte_idx (l : List Int) (c : Int) (hl : ∀ z ∈ l, 0 ≤ z ∧ z ≤ 255) (hc : 0 ≤ c ∧ c ≤ 255) :
    Lib.indexByte (Lib.bytesOf l) c.toNat.toUInt8 = idx l c := by
  induction l with
  | nil => rfl
  | cons a l ih =>
    have ih' := ih (fun z hz => hl z (by simp [hz]))
    have hb := byte_eq (hl a (by simp)) hc
    have e : Lib.bytesOf (a :: l) = UInt8.ofNat a.toNat :: Lib.bytesOf l := rfl
    rw [e, Lib.indexByte, idx, ih']
    by_cases h : a = c
    · rw [if_pos (hb.2 h), if_pos h]
    · rw [if_neg (fun hh => h (hb.1 hh)), if_neg h]
      simp

theorem sc_round (l : List Int) (n : Nat) (h : sc l = some n) :
    ∃ q : Nat, idx l 34 = q ∧ q < l.length ∧ ((idx (l.take q) 92 = -1 ∧ n = q + 1) ∨
      ∃ e : Nat, idx (l.take q) 92 = e ∧ e < q ∧ ∃ m, sc (l.drop (e + 2)) = some m ∧ n = e + 2 + m) := by
  induction l using sc.induct generalizing n with
  | case1 => simp [sc] at h
  | case2 => simp [sc] at h; subst h; exact ⟨0, by simp [idx], by simp, .inl ⟨by simp [idx], rfl⟩⟩
  | case3 c hc => simp [sc, hc] at h
  | case4 d l ih =>
    simp only [sc, if_true, Option.map_eq_some_iff] at h
    obtain ⟨m, hm, rfl⟩ := h
    obtain ⟨q', hq', hl', _⟩ := ih m hm
    by_cases hd : d = 34
    · exact ⟨1, by simp [idx, hd], by simp, .inr ⟨0, by simp [idx], by omega, m, by simpa using hm, by omega⟩⟩
    · exact ⟨q' + 2, by simp [idx, hd, hq']; omega, by simp; omega, .inr ⟨0, by simp [idx], by omega, m, by simpa using hm, by omega⟩⟩
  | case5 d l hne =>
    simp [sc] at h; subst h; exact ⟨0, by simp [idx], by simp, .inl ⟨by simp [idx], rfl⟩⟩
  | case6 c d l h1 h2 ih =>
    simp only [sc, if_neg h1, if_neg h2, Option.map_eq_some_iff] at h
    obtain ⟨m, hm, rfl⟩ := h
    obtain ⟨q', hq', hl', hor⟩ := ih m hm
    refine ⟨q' + 1, ?_, by simp at hl' ⊢; omega, ?_⟩
    · rw [idx, if_neg h2, hq', if_neg (by omega)]; omega
    · rcases hor with ⟨ha, hb⟩ | ⟨e, ha, hb, m', hm', hn⟩
      · left; refine ⟨?_, by omega⟩
        rw [List.take_succ_cons, idx, if_neg h1, ha]; simp
      · right; refine ⟨e + 1, ?_, by omega, m', ?_, by omega⟩
        · rw [List.take_succ_cons, idx, if_neg h1, ha, if_neg (by omega)]; omega
        · simpa using hm'

theorem drop_cons (xs : List Int) (m : Nat) (h : m < xs.length) : xs.drop m = xs.getD m 0 :: xs.drop (m + 1) := by
  rw [List.drop_eq_getElem_cons h]; simp [h]

theorem scAt_end (xs : List Int) (m : Nat) (h : xs.length ≤ m) : scAt xs m = -1 := by
  unfold scAt; rw [List.drop_eq_nil_of_le h]; rfl

theorem scAt_34 (xs : List Int) (m : Nat) (h : m < xs.length) (hc : xs.getD m 0 = 34) : scAt xs m = (m : Int) + 1 := by
  unfold scAt; rw [drop_cons xs m h, hc]
  cases xs.drop (m + 1) with
  | nil => simp [sc]
  | cons d l => simp [sc]

theorem scAt_92 (xs : List Int) (m : Nat) (h : m < xs.length) (hc : xs.getD m 0 = 92) : scAt xs (m + 2) = scAt xs m := by
  unfold scAt; rw [drop_cons xs m h, hc]
  cases e : xs.drop (m + 1) with
  | nil =>
    have : xs.drop (m + 2) = [] := by rw [show m + 2 = m + 1 + 1 from rfl, ← List.drop_drop, e]; rfl
    rw [this]; simp [sc]
  | cons d l =>
    have : xs.drop (m + 2) = l := by rw [show m + 2 = m + 1 + 1 from rfl, ← List.drop_drop, e]; rfl
    rw [this]; simp only [sc, if_true]
    cases sc l with
    | none => rfl
    | some k => simp; omega

theorem scAt_other (xs : List Int) (m : Nat) (h : m < xs.length) (h1 : xs.getD m 0 ≠ 92) (h2 : xs.getD m 0 ≠ 34) : scAt xs (m + 1) = scAt xs m := by
  unfold scAt; rw [drop_cons xs m h]
  cases e : xs.drop (m + 1) with
  | nil => simp only [sc, if_neg h2]
  | cons d l =>
    simp only [sc, if_neg h2, if_neg h1]
    cases sc (d :: l) with
    | none => rfl
    | some k => simp; omega

theorem scAt_le (xs : List Int) (m : Nat) : scAt xs m ≤ xs.length ∧ -1 ≤ scAt xs m := by
  unfold scAt
  have key : ∀ (l : List Int) n, sc l = some n → n ≤ l.length := by
    intro l n h
    induction l using sc.induct generalizing n with
    | case1 => simp [sc] at h
    | case2 => simp [sc] at h; subst h; simp
    | case3 c hc => simp [sc, hc] at h
    | case4 d l ih =>
      simp only [sc, if_true, Option.map_eq_some_iff] at h
      obtain ⟨k, hk, rfl⟩ := h
      have := ih k hk; simp; omega
    | case5 d l hne => simp [sc] at h; subst h; simp
    | case6 c d l h1 h2 ih =>
      simp only [sc, if_neg h1, if_neg h2, Option.map_eq_some_iff] at h
      obtain ⟨k, hk, rfl⟩ := h
      have := ih k hk; simp at this ⊢; omega
  cases e : sc (xs.drop m) with
  | none => simp
  | some n =>
    have := key _ _ e
    simp at this
    by_cases hm : m ≤ xs.length
    · constructor <;> simp <;> omega
    · rw [List.drop_eq_nil_of_le (by omega)] at e; simp [sc] at e

theorem scAt_ge (xs : List Int) (m : Nat) (h : 0 ≤ scAt xs m) : m < xs.length := by
  apply Classical.byContradiction
  intro hn
  have := scAt_end xs m (by omega)
  omega

/-- ONE ROUND OF stringEnd: from m on, where the string closes. -/
theorem scAt_round (xs : List Int) (m : Nat) (h : 0 ≤ scAt xs m) :
    ∃ q : Nat, idx (xs.drop m) 34 = q ∧ m + q < xs.length ∧ ((idx ((xs.drop m).take q) 92 = -1 ∧ scAt xs m = (m : Int) + q + 1) ∨
      ∃ e : Nat, idx ((xs.drop m).take q) 92 = e ∧ e < q ∧ scAt xs (m + e + 2) = scAt xs m) := by
  have hlt := scAt_ge xs m h
  unfold scAt at h ⊢
  cases e : sc (xs.drop m) with
  | none => rw [e] at h; simp at h
  | some n =>
    obtain ⟨q, hq, hl, hor⟩ := sc_round _ n e
    refine ⟨q, hq, by simp at hl; omega, ?_⟩
    rcases hor with ⟨ha, hb⟩ | ⟨e', ha, hb, m', hm', hn⟩
    · left; exact ⟨ha, by simp; omega⟩
    · right; refine ⟨e', ha, hb, ?_⟩
      rw [List.drop_drop] at hm'
      rw [show m + e' + 2 = m + (e' + 2) by omega, hm']
      simp; omega

end Go.Proofs.Qxb6601636a.J
