/-
  THE WALKS of hasExpMark, itoaU64, Digits, cutSign.
-/
import Derived.Test.Qxb6601839aAny
import Derived.Laws.Rows
import Derived.Laws.IdiomStrings
namespace Go.Proofs.Qxb6601839a.E
open Go.RowKit
set_option linter.unusedVariables false

theorem ret_bool {a b : Bool} (h : a = b) : Ending.returned (.bool a) = .returned (.bool b) := by rw [h]

theorem get_list (S : ByteArray) (l : List UInt8) (hS : S.data.toList = l) (j : Nat) (h : j < S.size) (h' : j < l.length) : S[j] = l[j] := by
  have : S[j] = S.data.toList[j]'(by rw [← Lib.size_eq]; exact h) := rfl
  rw [this]
  simp only [hS]

theorem mark_any (c : UInt8) (w : World) : Calls Try.prog 22 #[.int .u8 (c.toNat : Int)] w fun e w' => e = .returned (.bool (isE c)) ∧ w' = w := by
  have e1 : ((c.toNat : Int) == 101) = (c == 101) := by
    rw [Bool.eq_iff_iff]; simp; constructor
    · intro h; apply UInt8.toNat_inj.1; simp; omega
    · intro h; subst h; rfl
  have e2 : ((c.toNat : Int) == 69) = (c == 69) := by
    rw [Bool.eq_iff_iff]; simp; constructor
    · intro h; apply UInt8.toNat_inj.1; simp; omega
    · intro h; subst h; rfl
  unfold isE
  cases h1 : (c == 101)
  · rw [h1] at e1
    cases h2 : (c == 69)
    · rw [h2] at e2
      clear h1 h2
      go_enter Try.func22, Try.ntmps22
      go_wp2_with fail
      go_ret
      exact ⟨rfl, rfl⟩
    · rw [h2] at e2
      clear h1 h2
      go_enter Try.func22, Try.ntmps22
      go_wp2_with fail
      go_ret
      exact ⟨rfl, rfl⟩
  · rw [h1] at e1
    clear h1 e2
    go_enter Try.func22, Try.ntmps22
    go_wp2_with fail
    go_ret
    exact ⟨rfl, rfl⟩

theorem hasMark_any (m : ByteArray) (hm : m.size ≤ 2000000) (b : Bool) (hb : m.data.toList.any isE = b) (w : World) :
    Calls Try.prog 18 #[.string m] w fun e w' => e = .returned (.bool b) ∧ w' = w := by
  have HBB := hid hb
  clear hb
  have HL : Hid (m.data.toList.length = m.size) := (Lib.size_eq m).symm
  go_enter Try.func18, Try.ntmps18
  go_wp2_with fail
  go_loop [3] (fun x => ∃ k : Nat, k ≤ m.size ∧ x = .int .i64 k ∧ Hid ((m.data.toList.take k).any isE = false)) (fun x => m.size - (intOf x).toNat)
  case atStart => exact ⟨0, Nat.zero_le _, rfl, rfl⟩
  case round =>
    obtain ⟨k, hk, rfl, HNO⟩ := hrel
    by_cases hlt : k < m.size
    · have KM := hid (mark_any (m[k]'hlt))
      have hg : m[k]'hlt = m.data.toList[k]'(by rw [HL.out]; exact hlt) := rfl
      have HG := hid hg
      clear hg
      cases hc : isE (m[k]'hlt) with
      | true =>
        rw [hc] at KM
        have HC := hid hc
        clear hc
        go_wp2_with fail
        refine (KM.out _).mono ?_
        rintro e w1 ⟨rfl, rfl⟩
        clear KM
        go_wp2_with fail
        go_ret
        refine ⟨ret_bool ?_, rfl⟩
        have h1 := HC.out
        rw [HG.out] at h1
        rw [← HBB.out]
        exact (List.any_eq_true.2 ⟨_, List.getElem_mem _, h1⟩).symm
      | false =>
        rw [hc] at KM
        have HC := hid hc
        clear hc
        go_wp2_with fail
        refine (KM.out _).mono ?_
        rintro e w1 ⟨rfl, rfl⟩
        clear KM
        go_wp2_with fail
        go_round
        case rel =>
          refine ⟨k + 1, by omega, by go_num, ?_⟩
          unfold Hid
          rw [List.take_succ_eq_append_getElem (by rw [HL.out]; exact hlt), List.any_append, HNO.out]
          have h1 := HC.out
          rw [HG.out] at h1
          rw [List.any_cons, h1]
          rfl
        case measure => simp [intOf]; omega
    · go_wp2_with fail
      go_ret
      refine ⟨ret_bool ?_, rfl⟩
      have h1 := HNO.out
      rw [List.take_of_length_le (by rw [HL.out]; omega)] at h1
      rw [← HBB.out]
      exact h1.symm

theorem digits_any (D : ByteArray) (hd : ∀ c ∈ D.data.toList, 48 ≤ c.toNat ∧ c.toNat ≤ 57) (h0 : 0 < D.size) (hs : D.size ≤ 100) (w : World) :
    Calls Try.prog 11 #[.string D] w fun e w' => e = .returned (.bool true) ∧ w' = w := by
  have HD := hid hd
  have hne : D.toList.isEmpty = false := by
    rw [Lib.toList_data]
    cases h : D.data.toList with
    | nil => have := Lib.size_eq D; rw [h, List.length_nil] at this; omega
    | cons a l => rfl
  have HL : Hid (D.data.toList.length = D.size) := (Lib.size_eq D).symm
  clear hd
  go_enter Try.func11, Try.ntmps11
  go_wp2_with fail
  go_loop [3] (fun x => ∃ k : Nat, k ≤ D.size ∧ x = .int .i64 k) (fun x => D.size - (intOf x).toNat)
  case atStart => exact ⟨0, Nat.zero_le _, rfl⟩
  case round =>
    obtain ⟨k, hk, rfl⟩ := hrel
    by_cases hlt : k < D.size
    · have hc : 48 ≤ (D[k]'hlt).toNat ∧ (D[k]'hlt).toNat ≤ 57 := HD.out _ (List.getElem_mem (l := D.data.toList) (n := k) (by rw [HL.out]; exact hlt))
      have c1 : ¬ ((D[k]'hlt).toNat : Int) < 48 := by omega
      have c2 : ¬ (57 : Int) < ((D[k]'hlt).toNat : Int) := by omega
      go_wp2_with fail
      go_round
      case rel => exact ⟨k + 1, by omega, by go_num⟩
      case measure => simp [intOf]; omega
    · go_wp2_with fail
      go_ret
      exact ⟨rfl, rfl⟩

end Go.Proofs.Qxb6601839a.E
