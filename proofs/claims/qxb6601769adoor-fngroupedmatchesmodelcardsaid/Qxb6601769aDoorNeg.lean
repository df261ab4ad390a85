/-
  THE WALK of FnGroupedNegationAddsMinus.
-/
import Derived.Test.Qxb6601769aDoorFrame
namespace Go.Proofs.Qxb6601769aDoor.M
open Go.RowKit
set_option linter.unusedVariables false

theorem num_of (n : Int) (h1 : -9223372036854775808 ≤ n) (h2 : n ≤ 9223372036854775807) : ∃ neg m, Num neg m n ∧ (neg = true ↔ n < 0) := by
  by_cases h : n < 0
  · exact ⟨true, n.natAbs, ⟨by simp; omega, fun _ => by omega, fun _ => by omega, fun h => by cases h⟩, by simp [h]⟩
  · exact ⟨false, n.natAbs, ⟨by simp; omega, fun h => (by cases h), fun h => (by cases h), fun _ => by omega⟩, by simp; omega⟩

theorem ret_bool {a b : Bool} (h : a = b) : Ending.returned (.bool a) = .returned (.bool b) := by rw [h]

theorem gx_sign (m : Nat) : (⟨#[45]⟩ : ByteArray) ++ ⟨(gx false m).toArray⟩ = ⟨(gx true m).toArray⟩ := by
  apply ByteArray.ext
  simp [gx, sgn]

theorem gx_len (neg : Bool) (m : Nat) (hm : m ≤ 9223372036854775808) : (gx neg m).length ≤ 64 := by
  have hd : (Lib.decDigits (m / 100)).length ≤ 20 := by rw [Lib.decDigits_length]; exact nDigits20 _ (by omega)
  have hc : ∀ l : List UInt8, (com l).length ≤ 2 * l.length := by
    intro l
    induction l with
    | nil => simp [com]
    | cons a l ih => unfold com; split <;> simp <;> omega
  have hg : (grp (Lib.decDigits (m / 100))).length ≤ 40 := by
    cases h : Lib.decDigits (m / 100) with
    | nil => simp [grp]
    | cons a l => rw [h] at hd; have := hc l; simp [grp] at hd ⊢; omega
  have hs : (sgn neg).length ≤ 1 := by unfold sgn; split <;> simp
  unfold gx
  simp
  omega

set_option maxHeartbeats 2000000 in
theorem neg_walk (n : Int) (h1 : -9223372036854775808 ≤ n) (h2 : n ≤ 9223372036854775807) (w : World) (he : Env w) :
    Calls Tryd.prog 5 #[.int .i64 n] w fun e w' => e = .returned (.bool true) ∧ Kept w.heap.size w w' := by
  by_cases hn : n ≤ 0
  · clear he
    go_enter Tryd.func5, Tryd.ntmps5
    go_wp2_with fail
    go_ret
    exact ⟨rfl, Kept.refl _ _⟩
  · obtain ⟨m, rfl⟩ : ∃ m : Nat, n = m := ⟨n.toNat, by omega⟩
    have HE := hid he
    have K1 := hid (grouped_any true m (-(m : Int)) ⟨by simp, fun _ => by omega, fun _ => by omega, fun h => by cases h⟩ w he)
    have K2 : Hid (∀ w, Env w → _) := fun w he => grouped_any false m (m : Int) ⟨by simp, fun h => (by cases h), fun h => (by cases h), fun _ => by omega⟩ w he
    have HG := hid (gx_sign m)
    have HL := gx_len false m (by omega)
    have hsz : (⟨(gx false m).toArray⟩ : ByteArray).size ≤ 64 := by simpa [ByteArray.size] using HL
    clear HL he
    generalize (⟨(gx true m).toArray⟩ : ByteArray) = G1 at K1 HG
    generalize (⟨(gx false m).toArray⟩ : ByteArray) = G2 at K2 HG hsz
    go_enter Tryd.func5, Tryd.ntmps5
    go_wp2_with fail
    refine K1.out.mono ?_
    rintro e w1 ⟨rfl, hk1⟩
    have HK1 := hid hk1
    clear hk1
    go_wp2_with fail
    refine (K2.out _ (HE.out.kept HK1.out)).mono ?_
    rintro e w2 ⟨rfl, hk2⟩
    have HK2 := hid hk2
    clear hk2 K1 K2
    go_wp2_with fail
    go_ret
    exact ⟨ret_bool (by rw [HG.out]; simp), HK1.out.trans (HK2.out.mono HK1.out.size)⟩

end Go.Proofs.Qxb6601769aDoor.M
