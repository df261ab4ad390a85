/-
  THE PLAIN SIDE of the law on groups: with the commas struck the grouped text is the plain one; the groups are of three digits but the first.
-/
import Derived.Test.Qxb6601769aDoorNeg
namespace Go.Proofs.Qxb6601769aDoor.M
set_option linter.unusedVariables false

def noc (c : UInt8) : Bool := !(c == 44)

theorem com_filter (l : List UInt8) (h : ∀ c ∈ l, c ≠ 44) : (com l).filter noc = l := by
  induction l with
  | nil => rfl
  | cons c l ih =>
    have hc : noc c = true := by simp [noc]; exact h c (by simp)
    have ih' := ih (fun x hx => h x (by simp [hx]))
    have h44 : noc 44 = false := rfl
    unfold com
    split
    · simp [hc, h44, ih']
    · simp [hc, ih']

theorem grp_filter (l : List UInt8) (h : ∀ c ∈ l, c ≠ 44) : (grp l).filter noc = l := by
  cases l with
  | nil => rfl
  | cons c l =>
    have hc : noc c = true := by simp [noc]; exact h c (by simp)
    simp [grp, hc, com_filter l (fun x hx => h x (by simp [hx]))]

theorem dec_no_comma (u : Nat) : ∀ c ∈ Lib.decDigits u, c ≠ 44 := fun c hc h => by
  have := dec_digit u c hc
  subst h
  simp at this

theorem d1_rng (m : Nat) : 48 ≤ (d1 m).toNat ∧ (d1 m).toNat ≤ 57 := by unfold d1; simp only [UInt8.toNat_ofNat']; omega
theorem d2_rng (m : Nat) : 48 ≤ (d2 m).toNat ∧ (d2 m).toNat ≤ 57 := by unfold d2; simp only [UInt8.toNat_ofNat']; omega
theorem ne_of_rng {c : UInt8} (k : UInt8) (hk : k.toNat < 48) (h : 48 ≤ c.toNat ∧ c.toNat ≤ 57) : c ≠ k := fun e => by subst e; omega

theorem gx_filter (neg : Bool) (m : Nat) : (gx neg m).filter noc = fx neg m := by
  have e1 : noc (d1 m) = true := by simp [noc]; exact ne_of_rng 44 (by decide) (d1_rng m)
  have e2 : noc (d2 m) = true := by simp [noc]; exact ne_of_rng 44 (by decide) (d2_rng m)
  have e3 : noc 46 = true := rfl
  have e4 : (sgn neg).filter noc = sgn neg := by unfold sgn; split <;> rfl
  unfold gx fx
  rw [List.filter_append, List.filter_append, e4, grp_filter _ (dec_no_comma _)]
  simp [e1, e2, e3]

/-- What the Go loop over the groups does: the run and the commas so far; nothing where a group is out of form. -/
def bad (r k : Nat) : Prop := r < 1 ∨ 3 < r ∨ (0 < k ∧ r ≠ 3)
theorem bad_dec (r k : Nat) : bad r k ∨ ¬ bad r k := Classical.em _

/-- From here on the groups are in form, and the last one too. -/
def Chk : List UInt8 → Nat → Nat → Prop
  | [], r, k => ¬ bad r k
  | c :: l, r, k => if c = 44 then ¬ bad r k ∧ Chk l 0 (k + 1) else Chk l (r + 1) k

theorem chk_later (l : List UInt8) (h : ∀ c ∈ l, c ≠ 44) : ∀ (r k : Nat), 1 ≤ r → r ≤ 3 → 0 < k → (r + l.length) % 3 = 0 → Chk (com l) r k := by
  induction l with
  | nil => intro r k h1 h2 h3 h4; simp [com, Chk, bad] at h4 ⊢; omega
  | cons c l ih =>
    intro r k h1 h2 h3 h4
    have hc : c ≠ 44 := h c (by simp)
    have ih' := ih (fun x hx => h x (by simp [hx]))
    simp at h4
    unfold com
    split
    · rename_i hm
      have : r = 3 := by omega
      subst this
      simp [Chk, hc, bad]
      exact ih' 1 (k + 1) (by omega) (by omega) (by omega) (by omega)
    · rename_i hm
      simp [Chk, hc]
      exact ih' (r + 1) k (by omega) (by omega) h3 (by omega)

theorem chk_first (l : List UInt8) (h : ∀ c ∈ l, c ≠ 44) : ∀ r : Nat, 1 ≤ r → r + l.length % 3 ≤ 3 → Chk (com l) r 0 := by
  induction l with
  | nil => intro r h1 h2; simp [com, Chk, bad] at h2 ⊢; omega
  | cons c l ih =>
    intro r h1 h2
    have hc : c ≠ 44 := h c (by simp)
    have ih' := ih (fun x hx => h x (by simp [hx]))
    simp at h2
    unfold com
    split
    · rename_i hm
      simp [Chk, hc, bad]
      exact ⟨by omega, chk_later l (fun x hx => h x (by simp [hx])) 1 1 (by omega) (by omega) (by omega) (by omega)⟩
    · rename_i hm
      simp [Chk, hc]
      exact ih' (r + 1) (by omega) (by omega)

theorem chk_grp (D : List UInt8) (h : ∀ c ∈ D, c ≠ 44) (h0 : 0 < D.length) : Chk (grp D) 0 0 := by
  cases D with
  | nil => simp at h0
  | cons c l =>
    have hc : c ≠ 44 := h c (by simp)
    simp [grp, Chk, hc]
    exact chk_first l (fun x hx => h x (by simp [hx])) 1 (by omega) (by omega)

/-- What is in the grouped digits: digits and commas. -/
theorem grp_chars (D : List UInt8) (h : ∀ c ∈ D, 48 ≤ c.toNat ∧ c.toNat ≤ 57) : ∀ c ∈ grp D, c = 44 ∨ (48 ≤ c.toNat ∧ c.toNat ≤ 57) := by
  have hcom : ∀ l : List UInt8, (∀ c ∈ l, 48 ≤ c.toNat ∧ c.toNat ≤ 57) → ∀ c ∈ com l, c = 44 ∨ (48 ≤ c.toNat ∧ c.toNat ≤ 57) := by
    intro l
    induction l with
    | nil => intro _ c hc; simp [com] at hc
    | cons a l ih =>
      intro hl c hc
      have ih' := ih (fun x hx => hl x (by simp [hx])) c
      unfold com at hc
      split at hc <;> simp at hc
      · rcases hc with rfl | rfl | hc
        · exact .inl rfl
        · exact .inr (hl _ (by simp))
        · exact ih' hc
      · rcases hc with rfl | hc
        · exact .inr (hl _ (by simp))
        · exact ih' hc
  intro c hc
  cases D with
  | nil => simp [grp] at hc
  | cons a l =>
    simp [grp] at hc
    rcases hc with rfl | hc
    · exact .inr (h _ (by simp))
    · exact hcom l (fun x hx => h x (by simp [hx])) c hc

end Go.Proofs.Qxb6601769aDoor.M
