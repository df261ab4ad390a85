/-
  THE PLAIN SIDE: decimal digits, commas, the cut at the dot. No Go in sight.
-/
import Derived.Test.Qxb6601769aDoorFixed
import Derived.Lib.IndexBytes
namespace Go.Proofs.Qxb6601769aDoor.M
set_option linter.unusedVariables false

theorem dec_digit (u : Nat) : ∀ c ∈ Lib.decDigits u, 48 ≤ c.toNat ∧ c.toNat ≤ 57 := by
  induction u using Nat.strongRecOn with
  | _ u ih =>
    intro c hc
    rw [Lib.decDigits] at hc
    split at hc
    · rw [List.mem_singleton] at hc; subst hc; simp only [UInt8.toNat_ofNat']; omega
    · rename_i h
      rw [List.mem_append] at hc
      rcases hc with hc | hc
      · exact ih (u / 10) (by omega) c hc
      · rw [List.mem_singleton] at hc; subst hc; simp only [UInt8.toNat_ofNat']; omega

theorem dec_ne_nil (u : Nat) : Lib.decDigits u ≠ [] := by
  intro h
  have h1 := Lib.decDigits_length u
  have h2 := Lib.nDigits_pos u
  rw [h] at h1
  simp at h1
  omega

theorem index_dot (l r : List UInt8) (h : ∀ c ∈ l, c ≠ 46) : Lib.indexByte (l ++ 46 :: r) 46 = l.length := by
  induction l with
  | nil => simp [Lib.indexByte]
  | cons a l ih =>
    have ha : (a == 46) = false := by simpa using h a (by simp)
    have ih' := ih (fun c hc => h c (by simp [hc]))
    rw [List.cons_append, Lib.indexByte, ha, ih']
    simp

theorem cut_dot (l r : List UInt8) (h : ∀ c ∈ l, c ≠ 46) : Lib.cut (l ++ 46 :: r) [46] = (l, r, true) := by
  have hi : Lib.index (l ++ 46 :: r) [46] = l.length := by rw [Lib.index_one]; exact index_dot l r h
  unfold Lib.cut
  simp [hi]

/-- The commas: ahead of a digit that is not the first and has a multiple of three digits from it on. -/
def com : List UInt8 → List UInt8
  | [] => []
  | c :: l => (if (l.length + 1) % 3 = 0 then [44, c] else [c]) ++ com l
def grp : List UInt8 → List UInt8
  | [] => []
  | c :: l => c :: com l
def gx (neg : Bool) (m : Nat) : List UInt8 := sgn neg ++ grp (Lib.decDigits (m / 100)) ++ ([46] ++ [d1 m] ++ [d2 m])

end Go.Proofs.Qxb6601769aDoor.M
