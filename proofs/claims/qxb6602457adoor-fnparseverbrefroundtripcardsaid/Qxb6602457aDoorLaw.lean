/-
  THE WALK of FnParseVerbRefRoundTrip.
-/
import Derived.Test.Qxb6602457aDoorRef
namespace Go.Proofs.Qxb6602457aDoor.V
open Go.RowKit
set_option linter.unusedVariables false

theorem num_of (n : Int) (h1 : -9223372036854775808 ≤ n) (h2 : n ≤ 9223372036854775807) : ∃ (neg : Bool) (m : Nat), (n = if neg = true then -(m : Int) else (m : Int)) ∧ (neg = true → 1 ≤ m ∧ m ≤ 9223372036854775808) ∧ (neg = false → m < 9223372036854775808) ∧ m ≤ 9223372036854775808 := by
  by_cases h : n < 0
  · exact ⟨true, n.natAbs, by simp; omega, fun _ => by omega, (fun h => by cases h), by omega⟩
  · exact ⟨false, n.natAbs, by simp; omega, (fun h => by cases h), fun _ => by omega, by omega⟩

theorem ret_bool {a b : Bool} (h : a = b) : Ending.returned (.bool a) = .returned (.bool b) := by rw [h]

set_option maxHeartbeats 4000000 in
theorem law_walk (a b : Int) (ha1 : -9223372036854775808 ≤ a) (ha2 : a ≤ 9223372036854775807) (hb1 : -9223372036854775808 ≤ b) (hb2 : b ≤ 9223372036854775807) (w : World) (he : Env w) :
    Calls Tryd.prog 4 #[.int .i64 a, .int .i64 b] w fun e w' => e = .returned (.bool true) ∧ Below w.heap.size w w' := by
  obtain ⟨n1, m1, hx1, hp1, hq1, hr1⟩ := num_of a ha1 ha2
  obtain ⟨n2, m2, hx2, hp2, hq2, hr2⟩ := num_of b hb1 hb2
  have K1 : Hid (∀ w, _) := fun w => signed_any n1 m1 a hx1 hp1 hq1 w
  have K2 : Hid (∀ w, _) := fun w => signed_any n2 m2 b hx2 hp2 hq2 w
  have hT : (((⟨#[35]⟩ ++ ⟨(sgx n1 m1).toArray⟩) ++ ⟨#[58]⟩) ++ ⟨(sgx n2 m2).toArray⟩ : ByteArray) = ⟨(35 :: (sgx n1 m1 ++ 58 :: sgx n2 m2)).toArray⟩ := by
    apply ByteArray.ext
    simp
  have K3 : Hid (∀ w, Env w → Calls Tryd.prog 6 #[.string (((⟨#[35]⟩ ++ ⟨(sgx n1 m1).toArray⟩) ++ ⟨#[58]⟩) ++ ⟨(sgx n2 m2).toArray⟩)] w fun e w' => e = .returned (ans n1 n2 m1 m2) ∧ Below w.heap.size w w') := fun w he => by
    rw [hT]
    exact zz_any _ n1 n2 m1 m2 w (ref_any n1 n2 m1 m2 hr1 hq1 hr2 hq2 w he)
  have HE := hid he
  have l1 := sgx_len n1 m1 hr1
  have l2 := sgx_len n2 m2 hr2
  have z1 : (⟨(sgx n1 m1).toArray⟩ : ByteArray).size ≤ 21 := by rw [Lib.size_eq]; simpa using l1
  have z2 : (⟨(sgx n2 m2).toArray⟩ : ByteArray).size ≤ 21 := by rw [Lib.size_eq]; simpa using l2
  generalize (⟨(sgx n1 m1).toArray⟩ : ByteArray) = A at K1 K3 z1
  generalize (⟨(sgx n2 m2).toArray⟩ : ByteArray) = B at K2 K3 z2
  have HX1 := hid hx1
  have HX2 := hid hx2
  have HP1 := hid hp1
  have HP2 := hid hp2
  clear he l1 l2 hT ha1 ha2 hb1 hb2 hx1 hx2 hp1 hp2 hq1 hq2 hr1 hr2
  go_enter Tryd.func4, Tryd.ntmps4
  go_wp2_with fail
  refine (K1.out _).mono ?_
  rintro e w1 ⟨rfl, hb⟩
  have HB1 := hid hb
  clear hb K1
  go_wp2_with fail
  refine (K2.out _).mono ?_
  rintro e w2 ⟨rfl, hb⟩
  have HB2 := hid (HB1.out.trans (hb.mono HB1.out.size))
  clear hb K2
  go_wp2_with fail
  refine (K3.out _ (HE.out.below HB2.out)).mono ?_
  rintro e w3 ⟨rfl, hb⟩
  have HB3 := hid (HB2.out.trans (hb.mono HB2.out.size))
  clear hb K3
  cases n1 with
  | true =>
    have hlt : a < 0 := by have := HP1.out rfl; have hx1 := HX1.out; simp at hx1; omega
    have e1 : ans true n2 m1 m2 = .tuple #[.int .i64 0, .int .i64 0, .bool false] := by unfold ans; rw [if_neg (by simp)]
    rw [e1]
    clear HX1 HX2 HP1 HP2 e1
    go_wp2_with fail
    go_ret
    exact ⟨rfl, HB3.out⟩
  | false =>
    have hge : 0 ≤ a := by have hx1 := HX1.out; simp at hx1; omega
    cases n2 with
    | true =>
      have hlt : b < 0 := by have := HP2.out rfl; have hx2 := HX2.out; simp at hx2; omega
      have e1 : ans false true m1 m2 = .tuple #[.int .i64 0, .int .i64 0, .bool false] := by unfold ans; rw [if_neg (by simp)]
      rw [e1]
      clear HX1 HX2 HP1 HP2 e1
      go_wp2_with fail
      go_ret
      exact ⟨rfl, HB3.out⟩
    | false =>
      have hge2 : 0 ≤ b := by have hx2 := HX2.out; simp at hx2; omega
      have e1 : ans false false m1 m2 = .tuple #[.int .i64 a, .int .i64 b, .bool true] := by
        have hx1 := HX1.out
        have hx2 := HX2.out
        simp at hx1 hx2
        unfold ans
        rw [if_pos (by simp), hx1, hx2]
      rw [e1]
      clear HX1 HX2 HP1 HP2 e1
      go_wp2_with fail
      go_ret
      exact ⟨ret_bool (by simp), HB3.out⟩

end Go.Proofs.Qxb6602457aDoor.V
