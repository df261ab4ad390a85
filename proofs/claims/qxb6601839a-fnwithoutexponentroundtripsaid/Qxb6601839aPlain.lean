/-
  THE PLAIN SIDE: what the range loop reads at a byte from 128 on; lists.
-/
import Derived.Test.Qxb6601839aShelf
import Derived.Lib.DecodeN
import Derived.Lib.ItoaNum
import Derived.Laws.RangeAny
import Derived.Lib.OthersKept
import Derived.WalkKit
import Derived.Below
namespace Go.Proofs.Qxb6601839a.E
open Go.RowKit
set_option linter.unusedVariables false

theorem get_bang (s : ByteArray) (i : Nat) (h : i < s.size) : s.get! i = s[i] := by
  simp [ByteArray.get!, getElem!_pos, h]
  rfl

/-- A byte from 128 on: the rune is from 128 on, and whatever bytes it takes are from 128 on. -/
theorem decodeN_high (n b0 b1 b2 b3 : Nat) (h1 : 128 ≤ b0) (h0 : b0 < 256) :
    128 ≤ (Lib.decodeN n b0 b1 b2 b3).1 ∧ (Lib.decodeN n b0 b1 b2 b3).1 ≤ 1114111 ∧ 1 ≤ (Lib.decodeN n b0 b1 b2 b3).2 ∧ (Lib.decodeN n b0 b1 b2 b3).2 ≤ 4 ∧ ((Lib.decodeN n b0 b1 b2 b3).2 = 1 ∨ (Lib.decodeN n b0 b1 b2 b3).2 ≤ n) ∧
    (2 ≤ (Lib.decodeN n b0 b1 b2 b3).2 → 128 ≤ b1) ∧ (3 ≤ (Lib.decodeN n b0 b1 b2 b3).2 → 128 ≤ b2) ∧ (4 ≤ (Lib.decodeN n b0 b1 b2 b3).2 → 128 ≤ b3) := by
  unfold Lib.decodeN
  repeat' split
  all_goals (refine ⟨?_, ?_, ?_, ?_, ?_, fun h => ?_, fun h => ?_, fun h => ?_⟩ <;> dsimp only at * <;> omega)

theorem decode_high (s : ByteArray) (i M : Nat) (hi : i < M) (hM : M < s.size) (h1 : 128 ≤ (s[i]'(by omega)).toNat) (hlow : s[M].toNat < 128) :
    128 ≤ (Utf8.decode s i).1 ∧ (Utf8.decode s i).1 ≤ 1114111 ∧ 1 ≤ (Utf8.decode s i).2 ∧ i + (Utf8.decode s i).2 ≤ M := by
  rw [Lib.decode_at]
  have hb := decodeN_high (s.size - i) (s.get! i).toNat (s.get! (i + 1)).toNat (s.get! (i + 2)).toNat (s.get! (i + 3)).toNat (by rw [get_bang s i (by omega)]; exact h1) (UInt8.toNat_lt _)
  obtain ⟨a1, a2, a3, a4, a5, a6, a7, a8⟩ := hb
  refine ⟨a1, a2, a3, ?_⟩
  generalize (Lib.decodeN (s.size - i) (s.get! i).toNat (s.get! (i + 1)).toNat (s.get! (i + 2)).toNat (s.get! (i + 3)).toNat).2 = k at *
  by_cases hk : i + k ≤ M
  · exact hk
  · exfalso
    have hcases : M = i + 1 ∨ M = i + 2 ∨ M = i + 3 := by omega
    rcases hcases with rfl | rfl | rfl
    · have := a6 (by omega); rw [get_bang s _ hM] at this; omega
    · have := a7 (by omega); rw [get_bang s _ hM] at this; omega
    · have := a8 (by omega); rw [get_bang s _ hM] at this; omega

theorem dec_big {u : Nat} (h : ¬ u < 10) : Lib.decDigits u = Lib.decDigits (u / 10) ++ [UInt8.ofNat (48 + u % 10)] := by rw [Lib.decDigits, dif_neg h]

/-- itoaU64's loop: what is left, and the digits that stand. -/
def Fwd (u0 u : Nat) (R : List UInt8) : Prop := (0 < u → Lib.decDigits u ++ R = Lib.decDigits u0) ∧ (u = 0 → R = Lib.decDigits u0)
theorem fwd_step (u0 u : Nat) (R : List UInt8) (h : Fwd u0 u R) (hu : 0 < u) : Fwd u0 (u / 10) (UInt8.ofNat (48 + u % 10) :: R) := by
  have hm := h.1 hu
  constructor
  · intro h1
    rw [← hm, dec_big (u := u) (by omega)]
    simp
  · intro h1
    rw [← hm, Lib.decDigits_one (show u < 10 by omega)]
    simp [Nat.mod_eq_of_lt (show u < 10 by omega)]

theorem dec_digit (u : Nat) : ∀ c ∈ Lib.decDigits u, 48 ≤ c.toNat ∧ c.toNat ≤ 57 := by
  induction u using Nat.strongRecOn with
  | _ u ih =>
    intro c hc
    rw [Lib.decDigits] at hc
    split at hc
    · rw [List.mem_singleton] at hc; subst hc; simp only [UInt8.toNat_ofNat']; omega
    · rename_i h
      rw [List.mem_append] at hc
      rcases hc with hc | hc
      · exact ih (u / 10) (by omega) c hc
      · rw [List.mem_singleton] at hc; subst hc; simp only [UInt8.toNat_ofNat']; omega
theorem dec_ne_nil (u : Nat) : Lib.decDigits u ≠ [] := by
  by_cases h : u < 10
  · rw [Lib.decDigits_one h]; simp
  · rw [dec_big h]; simp

def isE (c : UInt8) : Bool := c == 101 || c == 69

theorem extract_eq (S : ByteArray) (a b : Nat) (l : List UInt8) (h : (S.data.toList.drop a).take (b - a) = l) : S.extract a b = ⟨l.toArray⟩ := by
  apply ByteArray.ext
  subst h
  apply Array.toList_inj.1
  simp [ByteArray.data_extract, Array.toList_extract, List.extract]
end Go.Proofs.Qxb6601839a.E
