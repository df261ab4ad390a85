/-
  WHAT THE TREE PRINTER's PARTS SAY OF THE MACHINE's RUNS. No Go in sight.
-/
import Derived.Test.Qxb6601636aMach
namespace Go.Proofs.Qxb6601636a.J
set_option linter.unusedVariables false

/-- White space is passed over, whatever the state. -/
theorem runs_skip (xs : List Int) (o : Bool) (f : Nat) (d : Int) (D : List Int) (i : Nat) (hi : i ≤ xs.length) : Runs xs ⟨i, o, f, d, D⟩ ⟨skip xs i, o, f, d, D⟩ := by
  generalize hm : xs.length - i = m
  induction m generalizing i with
  | zero => rw [skip_stop xs i (by omega)]; exact Runs.refl _ _
  | succ m ih =>
    by_cases hw : isWS (xs.getD i 0) = true
    · refine Runs.head (s1 := ⟨i + 1, o, f, d, D⟩) ?_ ?_
      · unfold step; rw [if_pos (show i < xs.length by omega), if_pos hw]
      · rw [← skip_ws xs i (by omega) hw]; exact ih (i + 1) (by omega) (by omega)
    · rw [skip_no xs i (by omega) (by simpa using hw)]; exact Runs.refl _ _

theorem step_str (xs : List Int) (f : Nat) (d : Int) (D : List Int) (p j : Nat) (hp : p < xs.length) (hc : xs.getD p 0 = 34) (hj : scAt xs (p + 1) = j) :
    step xs ⟨p, false, f, d, D⟩ = some ⟨j, false, f, d, D ++ piece xs p j⟩ := by
  unfold step
  simp only [hp, hc, hj]
  simp [isWS]

theorem step_lit (xs : List Int) (f : Nat) (d : Int) (D : List Int) (p : Nat) (hp : p < xs.length) (hc : isDelim (xs.getD p 0) = false) :
    step xs ⟨p, false, f, d, D⟩ = some ⟨p + 1, false, f, d, D ++ [xs.getD p 0]⟩ := by
  unfold step
  generalize xs.getD p 0 = c at hc ⊢
  simp only [isDelim, Bool.or_eq_false_iff, beq_eq_false_iff_ne] at hc
  obtain ⟨⟨⟨⟨⟨⟨⟨h1, h2⟩, h3⟩, h4⟩, h5⟩, h6⟩, h7⟩, h8⟩ := hc
  simp [hp, h1, h2, h3, h4, h5, h6, h7, h8]

theorem piece_snoc (xs : List Int) (p j : Nat) (hp : p ≤ j) (hj : j < xs.length) : piece xs p (j + 1) = piece xs p j ++ [xs.getD j 0] := by
  unfold piece
  rw [show j + 1 - p = (j - p) + 1 by omega, List.take_succ_eq_append_getElem (by simp; omega)]
  congr 2
  simp [List.getD, hj]
  congr 1
  omega

theorem runs_lit (xs : List Int) (f : Nat) (d : Int) (D : List Int) (p : Nat) : ∀ j, p ≤ j → j ≤ xs.length → (∀ k, p ≤ k → k < j → isDelim (xs.getD k 0) = false) →
    Runs xs ⟨p, false, f, d, D⟩ ⟨j, false, f, d, D ++ piece xs p j⟩ := by
  intro j hpj
  obtain ⟨m, rfl⟩ : ∃ m, j = p + m := ⟨j - p, by omega⟩
  clear hpj
  induction m with
  | zero => intro _ _; simp [piece]; exact Runs.refl _ _
  | succ m ih =>
    intro hj hk
    refine (ih (by omega) (fun k h1 h2 => hk k h1 (by omega))).trans (Runs.one ?_)
    rw [step_lit xs f d _ (p + m) (by omega) (hk _ (by omega) (by omega))]
    rw [← Nat.add_assoc, piece_snoc xs p (p + m) (by omega) (by omega), List.append_assoc]

/-- What a value says of the machine. -/
def RelV (xs : List Int) (d : Int) (fl : Bool) (p j : Nat) (app : List Int) : Prop :=
  ∀ (f : Nat) (D : List Int), (0 < f ↔ fl = true) → Runs xs ⟨p, false, f, d, D⟩ ⟨j, false, f, d, D ++ app⟩

theorem relV_str (xs : List Int) (d : Int) (fl : Bool) (p j : Nat) (hp : p < xs.length) (hc : xs.getD p 0 = 34) (hj : scAt xs (p + 1) = j) : RelV xs d fl p j (piece xs p j) :=
  fun f D _ => Runs.one (step_str xs f d D p j hp hc hj)
theorem relV_lit (xs : List Int) (d : Int) (fl : Bool) (p j : Nat) (hp : p ≤ j) (hj : j ≤ xs.length) (hk : ∀ k, p ≤ k → k < j → isDelim (xs.getD k 0) = false) : RelV xs d fl p j (piece xs p j) :=
  fun f D _ => runs_lit xs f d D p j hp hj hk

def lin (fl : Bool) (d : Int) : Bool := !fl && decide (d < 3)
def lv (fl : Bool) (d : Int) : Int := if lin fl d = true then d + 1 else d
def lineIf (b : Bool) (d : Int) : List Int := if b = true then line d else []
def spIf (b : Bool) : List Int := if b = true then [32] else []
def fIn (b : Bool) (f : Nat) : Nat := if b = true then f else f + 1

/-- From the container's head to just ahead of a token that closes nothing. -/
def Pre (xs : List Int) (i0 : Nat) (d : Int) (fl : Bool) (A : List Int) (i : Nat) : Prop :=
  ∀ (f : Nat) (D : List Int), (0 < f ↔ fl = true) → ∀ p, p = skip xs i → p < xs.length → xs.getD p 0 ≠ 93 → xs.getD p 0 ≠ 125 →
    Runs xs ⟨i0, false, f, d, D⟩ ⟨p, false, fIn (lin fl d) f, lv fl d, D ++ A⟩
/-- From the container's head to behind a value in it. -/
def Aft (xs : List Int) (i0 : Nat) (d : Int) (fl : Bool) (A : List Int) (j : Nat) : Prop :=
  ∀ (f : Nat) (D : List Int), (0 < f ↔ fl = true) → Runs xs ⟨i0, false, f, d, D⟩ ⟨j, false, fIn (lin fl d) f, lv fl d, D ++ A⟩

theorem step_open_lined (xs : List Int) (d : Int) (D : List Int) (p : Nat) (hp : p < xs.length) (hc : xs.getD p 0 = 91 ∨ xs.getD p 0 = 123) (hd : d < 3) :
    step xs ⟨p, false, 0, d, D⟩ = some ⟨p + 1, true, 0, d + 1, D ++ [xs.getD p 0]⟩ := by
  unfold step
  rcases hc with hc | hc <;> simp only [hc] <;> simp [isWS, hp, hd]

theorem step_open_flat (xs : List Int) (f : Nat) (d : Int) (D : List Int) (p : Nat) (hp : p < xs.length) (hc : xs.getD p 0 = 91 ∨ xs.getD p 0 = 123) (hd : 0 < f ∨ ¬ d < 3) :
    step xs ⟨p, false, f, d, D⟩ = some ⟨p + 1, false, f + 1, d, D ++ [xs.getD p 0]⟩ := by
  unfold step
  by_cases hf : 0 < f
  · rcases hc with hc | hc <;> simp only [hc] <;> simp [isWS, hp, hf]
  · have hd' : ¬ d < 3 := by omega
    obtain rfl : f = 0 := by omega
    rcases hc with hc | hc <;> simp only [hc] <;> simp [isWS, hp, hd']

theorem step_close_opened (xs : List Int) (f : Nat) (d : Int) (D : List Int) (p : Nat) (hp : p < xs.length) (hc : xs.getD p 0 = 93 ∨ xs.getD p 0 = 125) (hd : -9223372036854775808 < d) :
    step xs ⟨p, true, f, d, D⟩ = some ⟨p + 1, false, f, d - 1, D ++ [xs.getD p 0]⟩ := by
  unfold step
  rcases hc with hc | hc <;> simp only [hc] <;> simp [isWS, hp, hd]

theorem step_opened (xs : List Int) (f : Nat) (d : Int) (D : List Int) (p : Nat) (hp : p < xs.length) (hw : isWS (xs.getD p 0) = false) (h1 : xs.getD p 0 ≠ 93) (h2 : xs.getD p 0 ≠ 125) :
    step xs ⟨p, true, f, d, D⟩ = some ⟨p, false, f, d, D ++ line d⟩ := by
  unfold step
  generalize xs.getD p 0 = c at hw h1 h2 ⊢
  simp [hp, hw, h1, h2]

theorem step_close_flat (xs : List Int) (f : Nat) (d : Int) (D : List Int) (p : Nat) (hp : p < xs.length) (hc : xs.getD p 0 = 93 ∨ xs.getD p 0 = 125) :
    step xs ⟨p, false, f + 1, d, D⟩ = some ⟨p + 1, false, f, d, D ++ [xs.getD p 0]⟩ := by
  unfold step
  rcases hc with hc | hc <;> simp only [hc] <;> simp [isWS, hp]

theorem step_close_lined (xs : List Int) (d : Int) (D : List Int) (p : Nat) (hp : p < xs.length) (hc : xs.getD p 0 = 93 ∨ xs.getD p 0 = 125) (hd : -9223372036854775808 < d) :
    step xs ⟨p, false, 0, d, D⟩ = some ⟨p + 1, false, 0, d - 1, D ++ line (d - 1) ++ [xs.getD p 0]⟩ := by
  unfold step
  rcases hc with hc | hc <;> simp only [hc] <;> simp [isWS, hp, hd]

theorem step_comma (xs : List Int) (b : Bool) (f : Nat) (d : Int) (D : List Int) (p : Nat) (hp : p < xs.length) (hc : xs.getD p 0 = 44) (hf : b = true ↔ f = 0) :
    step xs ⟨p, false, f, d, D⟩ = some ⟨p + 1, false, f, d, D ++ [44] ++ lineIf b d⟩ := by
  unfold step
  by_cases h : f = 0
  · obtain rfl := h; have hb : b = true := by simp [hf]
    simp only [hc, hb]; simp [isWS, hp, lineIf]
  · have hb : b = false := by cases b <;> simp_all
    have : 0 < f := by omega
    simp only [hc, hb]; simp [isWS, hp, lineIf, this]

theorem step_colon (xs : List Int) (b : Bool) (f : Nat) (d : Int) (D : List Int) (p : Nat) (hp : p < xs.length) (hc : xs.getD p 0 = 58) (hf : b = true ↔ f = 0) :
    step xs ⟨p, false, f, d, D⟩ = some ⟨p + 1, false, f, d, D ++ [58] ++ spIf b⟩ := by
  unfold step
  by_cases h : f = 0
  · obtain rfl := h; have hb : b = true := by simp [hf]
    simp only [hc, hb]; simp [isWS, hp, spIf]
  · have hb : b = false := by cases b <;> simp_all
    have : 0 < f := by omega
    simp only [hc, hb]; simp [isWS, hp, spIf, this]

theorem lin_f {fl : Bool} {d : Int} {f : Nat} (hf : 0 < f ↔ fl = true) : lin fl d = true ↔ fIn (lin fl d) f = 0 := by
  unfold fIn
  cases h : lin fl d with
  | false => simp
  | true =>
    have : fl = false := by unfold lin at h; cases fl <;> simp_all
    subst this; simp at hf; simp [hf]
theorem lin_f' {fl : Bool} {d : Int} {f : Nat} (hf : 0 < f ↔ fl = true) : 0 < fIn (lin fl d) f ↔ (!lin fl d) = true := by
  have := lin_f (d := d) hf
  cases h : lin fl d
  · rw [h] at this; simp at this ⊢; omega
  · rw [h] at this; simp at this ⊢; omega

/-- The container's opening. -/
theorem pre_open (xs : List Int) (i0 : Nat) (d : Int) (fl : Bool) (hp : i0 < xs.length) (hc : xs.getD i0 0 = 91 ∨ xs.getD i0 0 = 123) :
    Pre xs i0 d fl ([xs.getD i0 0] ++ lineIf (lin fl d) (lv fl d)) (skip xs (i0 + 1)) := by
  intro f D hf p hpe hpl h1 h2
  rw [skip_skip] at hpe
  by_cases hl : lin fl d = true
  · have hfl : fl = false ∧ d < 3 := by unfold lin at hl; cases fl <;> simp_all
    obtain ⟨rfl, hd⟩ := hfl
    obtain rfl : f = 0 := by simp at hf; omega
    refine Runs.head (step_open_lined xs d D i0 hp hc hd) ((runs_skip xs true 0 (d + 1) _ (i0 + 1) (by omega)).trans ?_)
    rw [← hpe]
    have e := step_opened xs 0 (d + 1) (D ++ [xs.getD i0 0]) p hpl (by rw [hpe]; exact skip_tok xs _ (by rw [← hpe]; exact hpl)) h1 h2
    simp only [hl, lineIf, lv, fIn, if_true]
    rw [← List.append_assoc]
    exact Runs.one e
  · have hl' : lin fl d = false := by simpa using hl
    have hor : 0 < f ∨ ¬ d < 3 := by
      unfold lin at hl'; cases fl
      · right; simpa using hl'
      · left; exact hf.2 rfl
    refine Runs.head (step_open_flat xs f d D i0 hp hc hor) ?_
    simp only [hl', lineIf, lv, fIn, Bool.false_eq_true, if_false, List.append_nil]
    rw [hpe]
    exact runs_skip xs false (f + 1) d _ (i0 + 1) (by omega)

/-- An empty container. -/
theorem relV_empty (xs : List Int) (i0 : Nat) (d : Int) (fl : Bool) (p : Nat) (hp : i0 < xs.length) (hc : xs.getD i0 0 = 91 ∨ xs.getD i0 0 = 123) (hd : -9223372036854775808 ≤ d)
    (hpe : p = skip xs (i0 + 1)) (hpl : p < xs.length) (hcl : xs.getD p 0 = 93 ∨ xs.getD p 0 = 125) : RelV xs d fl i0 (p + 1) ([xs.getD i0 0] ++ [xs.getD p 0]) := by
  intro f D hf
  by_cases hl : lin fl d = true
  · have hfl : fl = false ∧ d < 3 := by unfold lin at hl; cases fl <;> simp_all
    obtain ⟨rfl, hd3⟩ := hfl
    obtain rfl : f = 0 := by simp at hf; omega
    refine Runs.head (step_open_lined xs d D i0 hp hc hd3) ((runs_skip xs true 0 (d + 1) _ (i0 + 1) (by omega)).trans ?_)
    rw [← hpe, ← List.append_assoc]
    have e := step_close_opened xs 0 (d + 1) (D ++ [xs.getD i0 0]) p hpl hcl (by omega)
    rw [show d + 1 - 1 = d by omega] at e
    exact Runs.one e
  · have hl' : lin fl d = false := by simpa using hl
    have hor : 0 < f ∨ ¬ d < 3 := by
      unfold lin at hl'; cases fl
      · right; simpa using hl'
      · left; exact hf.2 rfl
    refine Runs.head (step_open_flat xs f d D i0 hp hc hor) ((runs_skip xs false (f + 1) d _ (i0 + 1) (by omega)).trans ?_)
    rw [← hpe, ← List.append_assoc]
    exact Runs.one (step_close_flat xs f d _ p hpl hcl)

/-- A member's name and its colon. -/
theorem pre_key (xs : List Int) (i0 : Nat) (d : Int) (fl : Bool) (A : List Int) (i p j q : Nat) (h : Pre xs i0 d fl A i) (hpe : p = skip xs i) (hpl : p < xs.length) (hc : xs.getD p 0 = 34)
    (hj : scAt xs (p + 1) = j) (hqe : q = skip xs j) (hql : q < xs.length) (hq : xs.getD q 0 = 58) :
    Pre xs i0 d fl (A ++ piece xs p j ++ [58] ++ spIf (lin fl d)) (q + 1) := by
  intro f D hf p' hpe' hpl' h1 h2
  have hjl := (scAt_le xs (p + 1)).1
  rw [hj] at hjl
  refine (h f D hf p hpe hpl (by omega) (by omega)).trans ?_
  refine Runs.head (step_str xs _ _ _ p j hpl hc hj) ((runs_skip xs _ _ _ _ j (by omega)).trans ?_)
  rw [← hqe]
  refine Runs.head (step_colon xs (lin fl d) _ _ _ q hql hq (lin_f hf)) ?_
  have e : D ++ (A ++ piece xs p j ++ [58] ++ spIf (lin fl d)) = D ++ A ++ piece xs p j ++ [58] ++ spIf (lin fl d) := by simp
  rw [e, hpe']
  exact runs_skip xs _ _ _ _ (q + 1) (by omega)

/-- A value in the container. -/
theorem aft_val (xs : List Int) (i0 : Nat) (d : Int) (fl : Bool) (A B : List Int) (i p j : Nat) (h : Pre xs i0 d fl A i) (hpe : p = skip xs i) (hpl : p < xs.length)
    (h1 : xs.getD p 0 ≠ 93) (h2 : xs.getD p 0 ≠ 125) (hv : RelV xs (lv fl d) (!lin fl d) p j B) : Aft xs i0 d fl (A ++ B) j := by
  intro f D hf
  refine (h f D hf p hpe hpl h1 h2).trans ?_
  rw [← List.append_assoc]
  exact hv _ _ (lin_f' hf)

theorem pre_comma (xs : List Int) (i0 : Nat) (d : Int) (fl : Bool) (A : List Int) (j r : Nat) (h : Aft xs i0 d fl A j) (hj : j ≤ xs.length) (hre : r = skip xs j) (hrl : r < xs.length) (hc : xs.getD r 0 = 44) :
    Pre xs i0 d fl (A ++ [44] ++ lineIf (lin fl d) (lv fl d)) (r + 1) := by
  intro f D hf p hpe hpl _ _
  refine (h f D hf).trans ((runs_skip xs _ _ _ _ j hj).trans ?_)
  rw [← hre]
  refine Runs.head (step_comma xs (lin fl d) _ _ _ r hrl hc (lin_f hf)) ?_
  have e : D ++ (A ++ [44] ++ lineIf (lin fl d) (lv fl d)) = D ++ A ++ [44] ++ lineIf (lin fl d) (lv fl d) := by simp
  rw [e, hpe]
  exact runs_skip xs _ _ _ _ (r + 1) (by omega)

theorem relV_close (xs : List Int) (i0 : Nat) (d : Int) (fl : Bool) (A : List Int) (j r : Nat) (h : Aft xs i0 d fl A j) (hj : j ≤ xs.length) (hre : r = skip xs j) (hrl : r < xs.length)
    (hc : xs.getD r 0 = 93 ∨ xs.getD r 0 = 125) (hd : -9223372036854775808 ≤ d) : RelV xs d fl i0 (r + 1) (A ++ lineIf (lin fl d) d ++ [xs.getD r 0]) := by
  intro f D hf
  refine (h f D hf).trans ((runs_skip xs _ _ _ _ j hj).trans ?_)
  rw [← hre]
  have e : D ++ (A ++ lineIf (lin fl d) d ++ [xs.getD r 0]) = D ++ A ++ lineIf (lin fl d) d ++ [xs.getD r 0] := by simp
  rw [e]
  by_cases hl : lin fl d = true
  · have hfl : fl = false := by unfold lin at hl; cases fl <;> simp_all
    obtain rfl : f = 0 := by subst hfl; simp at hf; omega
    have k := step_close_lined xs (d + 1) (D ++ A) r hrl hc (by omega)
    rw [show d + 1 - 1 = d by omega] at k
    simp only [hl, fIn, lv, lineIf, if_true]
    exact Runs.one k
  · have hl' : lin fl d = false := by simpa using hl
    simp only [hl', fIn, lv, lineIf, Bool.false_eq_true, if_false, List.append_nil]
    exact Runs.one (step_close_flat xs f d _ r hrl hc)

/-- THE WHOLE: a value alone in the text. -/
theorem runs_whole (xs : List Int) (d : Int) (j : Nat) (app : List Int) (hj : j ≤ xs.length) (hv : RelV xs d false (skip xs 0) j app) (he : skip xs j = xs.length) :
    Runs xs ⟨0, false, 0, d, []⟩ ⟨xs.length, false, 0, d, app⟩ := by
  refine (runs_skip xs false 0 d [] 0 (Nat.zero_le _)).trans ((hv 0 [] (by simp)).trans ?_)
  have := runs_skip xs false 0 d ([] ++ app) j hj
  rw [he] at this
  simpa using this

end Go.Proofs.Qxb6601636a.J
