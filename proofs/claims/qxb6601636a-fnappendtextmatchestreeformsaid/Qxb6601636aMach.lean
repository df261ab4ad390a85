/-
  THE PLAIN SIDE of AppendText: a machine of small steps over the text's bytes, and what the tree printer says of its runs. No Go in sight.
-/
import Derived.Test.Qxb6601636aPlain
namespace Go.Proofs.Qxb6601636a.J
set_option linter.unusedVariables false

def isWS (c : Int) : Bool := c == 32 || c == 9 || c == 10 || c == 13
def isDelim (c : Int) : Bool := isWS c || c == 91 || c == 93 || c == 123 || c == 125 || c == 44 || c == 58 || c == 34

def sk : List Int → Nat
  | [] => 0
  | c :: l => if isWS c then sk l + 1 else 0
def skip (xs : List Int) (i : Nat) : Nat := i + sk (xs.drop i)

theorem skip_stop (xs : List Int) (i : Nat) (h : xs.length ≤ i) : skip xs i = i := by
  unfold skip; rw [List.drop_eq_nil_of_le h]; rfl
theorem skip_ws (xs : List Int) (i : Nat) (h : i < xs.length) (hw : isWS (xs.getD i 0) = true) : skip xs (i + 1) = skip xs i := by
  unfold skip; rw [drop_cons xs i h, sk, if_pos hw]; omega
theorem skip_no (xs : List Int) (i : Nat) (h : i < xs.length) (hw : isWS (xs.getD i 0) = false) : skip xs i = i := by
  unfold skip; rw [drop_cons xs i h, sk, hw]; simp
theorem sk_le (l : List Int) : sk l ≤ l.length := by
  induction l with
  | nil => simp [sk]
  | cons a l ih => unfold sk; split <;> simp <;> omega
theorem skip_le (xs : List Int) (i : Nat) (h : i ≤ xs.length) : skip xs i ≤ xs.length := by
  unfold skip; have := sk_le (xs.drop i); simp at this; omega
theorem le_skip (xs : List Int) (i : Nat) : i ≤ skip xs i := by unfold skip; omega
theorem sk_tok : ∀ (l : List Int), sk l < l.length → isWS (l.getD (sk l) 0) = false
  | [], h => by simp at h
  | c :: l, h => by
    by_cases hw : isWS c = true
    · have e : sk (c :: l) = sk l + 1 := by rw [sk, if_pos hw]
      rw [e] at h ⊢
      simp at h ⊢
      simpa using sk_tok l h
    · have e : sk (c :: l) = 0 := by rw [sk, if_neg hw]
      rw [e]; simpa using hw
theorem skip_tok (xs : List Int) (i : Nat) (h : skip xs i < xs.length) : isWS (xs.getD (skip xs i) 0) = false := by
  unfold skip at h ⊢
  have := sk_tok (xs.drop i) (by simp; omega)
  simpa [List.getD, List.getElem?_drop] using this
theorem skip_skip (xs : List Int) (i : Nat) : skip xs (skip xs i) = skip xs i := by
  by_cases h : skip xs i < xs.length
  · exact skip_no xs _ h (skip_tok xs i h)
  · exact skip_stop xs _ (by omega)

def piece (xs : List Int) (p j : Nat) : List Int := (xs.drop p).take (j - p)
theorem length_piece (xs : List Int) (p j : Nat) (h : j ≤ xs.length) (hp : p ≤ j) : (piece xs p j).length = j - p := by unfold piece; simp; omega

def line (d : Int) : List Int := 10 :: List.replicate (2 * d.toNat) 32
theorem length_line (d : Int) : (line d).length = 2 * d.toNat + 1 := by simp [line]

structure St where
  i : Nat
  o : Bool
  f : Nat
  d : Int
  out : List Int

def step (xs : List Int) (s : St) : Option St :=
  if s.i < xs.length then
    if isWS (xs.getD s.i 0) = true then some { s with i := s.i + 1 }
    else if s.o = true then
      if xs.getD s.i 0 = 93 ∨ xs.getD s.i 0 = 125 then (if -9223372036854775808 < s.d then some ⟨s.i + 1, false, s.f, s.d - 1, s.out ++ [xs.getD s.i 0]⟩ else none)
      else some ⟨s.i, false, s.f, s.d, s.out ++ line s.d⟩
    else if xs.getD s.i 0 = 34 then (if 0 ≤ scAt xs (s.i + 1) then some ⟨(scAt xs (s.i + 1)).toNat, false, s.f, s.d, s.out ++ piece xs s.i (scAt xs (s.i + 1)).toNat⟩ else none)
    else if 0 < s.f then
      if xs.getD s.i 0 = 91 ∨ xs.getD s.i 0 = 123 then some ⟨s.i + 1, false, s.f + 1, s.d, s.out ++ [xs.getD s.i 0]⟩
      else if xs.getD s.i 0 = 93 ∨ xs.getD s.i 0 = 125 then some ⟨s.i + 1, false, s.f - 1, s.d, s.out ++ [xs.getD s.i 0]⟩
      else some ⟨s.i + 1, false, s.f, s.d, s.out ++ [xs.getD s.i 0]⟩
    else if xs.getD s.i 0 = 91 ∨ xs.getD s.i 0 = 123 then
      (if s.d < 3 then some ⟨s.i + 1, true, s.f, s.d + 1, s.out ++ [xs.getD s.i 0]⟩ else some ⟨s.i + 1, false, 1, s.d, s.out ++ [xs.getD s.i 0]⟩)
    else if xs.getD s.i 0 = 93 ∨ xs.getD s.i 0 = 125 then (if -9223372036854775808 < s.d then some ⟨s.i + 1, false, s.f, s.d - 1, s.out ++ line (s.d - 1) ++ [xs.getD s.i 0]⟩ else none)
    else if xs.getD s.i 0 = 44 then some ⟨s.i + 1, false, s.f, s.d, s.out ++ [44] ++ line s.d⟩
    else if xs.getD s.i 0 = 58 then some ⟨s.i + 1, false, s.f, s.d, s.out ++ [58, 32]⟩
    else some ⟨s.i + 1, false, s.f, s.d, s.out ++ [xs.getD s.i 0]⟩
  else none

def runs (xs : List Int) : Nat → St → St → Prop
  | 0, s, t => s = t
  | n + 1, s, t => ∃ s1, step xs s = some s1 ∧ runs xs n s1 t
def Runs (xs : List Int) (s t : St) : Prop := ∃ n, runs xs n s t

theorem Runs.refl (xs : List Int) (s : St) : Runs xs s s := ⟨0, rfl⟩
theorem Runs.head {xs : List Int} {s s1 t : St} (h : step xs s = some s1) (h1 : Runs xs s1 t) : Runs xs s t := by
  obtain ⟨n, hn⟩ := h1; exact ⟨n + 1, s1, h, hn⟩
theorem Runs.one {xs : List Int} {s t : St} (h : step xs s = some t) : Runs xs s t := Runs.head h (Runs.refl _ _)
theorem Runs.trans {xs : List Int} {s t u : St} (h : Runs xs s t) (k : Runs xs t u) : Runs xs s u := by
  obtain ⟨n, hn⟩ := h
  induction n generalizing s with
  | zero => cases hn; exact k
  | succ n ih => obtain ⟨s1, h1, h2⟩ := hn; exact Runs.head h1 (ih h2)
theorem Runs.next {xs : List Int} {s t : St} (h : Runs xs s t) (hs : s.i < xs.length) (ht : t.i = xs.length) : ∃ s1, step xs s = some s1 ∧ Runs xs s1 t := by
  obtain ⟨n, hn⟩ := h
  cases n with
  | zero => cases hn; omega
  | succ n => obtain ⟨s1, h1, h2⟩ := hn; exact ⟨s1, h1, n, h2⟩
theorem Runs.stop {xs : List Int} {s t : St} (h : Runs xs s t) (hs : xs.length ≤ s.i) : s = t := by
  obtain ⟨n, hn⟩ := h
  cases n with
  | zero => exact hn
  | succ n => obtain ⟨s1, h1, _⟩ := hn; unfold step at h1; rw [if_neg (by omega)] at h1; cases h1

theorem step_len {xs : List Int} {s t : St} (h : step xs s = some t) : s.out.length ≤ t.out.length := by
  unfold step at h
  repeat' split at h
  all_goals first | (cases h; done) | (cases h; simp; done) | (cases h; simp; omega)
theorem Runs.len {xs : List Int} {s t : St} (h : Runs xs s t) : s.out.length ≤ t.out.length := by
  obtain ⟨n, hn⟩ := h
  induction n generalizing s with
  | zero => cases hn; exact Nat.le_refl _
  | succ n ih => obtain ⟨s1, h1, h2⟩ := hn; exact Nat.le_trans (step_len h1) (ih h2)

end Go.Proofs.Qxb6601636a.J
