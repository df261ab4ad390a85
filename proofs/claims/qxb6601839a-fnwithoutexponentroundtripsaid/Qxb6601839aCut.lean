/-
  THE WALKS of cutSign, withoutExponent, FnWithoutExponentRoundTrip.
-/
import Derived.Test.Qxb6601839aExp
namespace Go.Proofs.Qxb6601839a.E
open Go.RowKit
set_option linter.unusedVariables false

/-- A sign, or none. -/
def Sg (sg : List UInt8) : Prop := sg = [] ∨ sg = [43] ∨ sg = [45]

theorem pre_ne (a x : UInt8) (l : List UInt8) (h : ¬ a = x) : Lib.hasPrefix (a :: l) [x] = false := by
  unfold Lib.hasPrefix
  rw [List.isPrefixOf]
  have : (x == a) = false := by simpa using fun e => h (Eq.symm e)
  rw [this]
  rfl

theorem cut_none (T : ByteArray) (D : List UInt8) (hT : T.data.toList = D) (hd : ∀ c ∈ D, 48 ≤ c.toNat ∧ c.toNat ≤ 57) (h0 : D ≠ []) (w : World) :
    Calls Try.prog 24 #[.string T] w fun e w' => e = .returned (.tuple #[.string T, .string ⟨#[]⟩]) ∧ w' = w := by
  have hp : ∀ x : UInt8, x.toNat < 48 → Lib.hasPrefix T.data.toList [x] = false := by
    intro x hx
    rw [hT]
    cases D with
    | nil => exact absurd rfl h0
    | cons a l =>
      have := hd a (by simp)
      have hne : ¬ a = x := by intro h; subst h; omega
      exact pre_ne a x l hne
  have K1 : Hid (∀ w, Calls Try.prog 29 #[.string T, .string ⟨#[43]⟩] w fun e w' => e = .returned (.bool false) ∧ w' = w) := fun w => by
    have := Try.strings_HasPrefix T ⟨#[43]⟩ w
    rw [show (⟨#[43]⟩ : ByteArray).data.toList = [43] from rfl, hp 43 (by decide)] at this
    exact this
  have K2 : Hid (∀ w, Calls Try.prog 29 #[.string T, .string ⟨#[45]⟩] w fun e w' => e = .returned (.bool false) ∧ w' = w) := fun w => by
    have := Try.strings_HasPrefix T ⟨#[45]⟩ w
    rw [show (⟨#[45]⟩ : ByteArray).data.toList = [45] from rfl, hp 45 (by decide)] at this
    exact this
  clear hT hd h0 hp
  go_enter Try.func24, Try.ntmps24
  go_wp2_with fail
  refine (K1.out _).mono ?_
  rintro e w1 ⟨rfl, rfl⟩
  go_wp2_with fail
  refine (K2.out _).mono ?_
  rintro e w2 ⟨rfl, rfl⟩
  go_wp2_with fail
  go_ret2
  exact ⟨rfl, rfl⟩

theorem cut_sign (T : ByteArray) (x : UInt8) (D : List UInt8) (hT : T.data.toList = x :: D) (hx : x = 43 ∨ x = 45) (hs : T.size ≤ 1000) (w : World) :
    Calls Try.prog 24 #[.string T] w fun e w' => e = .returned (.tuple #[.string ⟨D.toArray⟩, .string ⟨#[x]⟩]) ∧ Below w.heap.size w w' := by
  have hsz : T.size = D.length + 1 := by rw [Lib.size_eq, hT]; rfl
  have he1 : T.extract 1 T.size = ⟨D.toArray⟩ := extract_eq T 1 T.size D (by rw [hT, hsz]; simp)
  have he2 : T.extract 0 1 = ⟨#[x]⟩ := extract_eq T 0 1 [x] (by rw [hT]; rfl)
  have hsl : (1 : Int) ≤ (T.size : Int) := by omega
  rcases hx with rfl | rfl
  · have K1 : Hid (∀ w, Calls Try.prog 29 #[.string T, .string ⟨#[43]⟩] w fun e w' => e = .returned (.bool true) ∧ w' = w) := fun w => by
      have := Try.strings_HasPrefix T ⟨#[43]⟩ w
      rw [show (⟨#[43]⟩ : ByteArray).data.toList = [43] from rfl, hT, show Lib.hasPrefix (43 :: D) [43] = true by simp [Lib.hasPrefix]] at this
      exact this
    clear hT hsz
    go_enter Try.func24, Try.ntmps24
    go_wp2_with fail
    refine (K1.out _).mono ?_
    rintro e w1 ⟨rfl, rfl⟩
    go_wp2_with fail
    go_quiet (fail)
    go_wp2_with fail
    go_ret2
    exact ⟨rfl, ⟨rfl, rfl, rfl, Nat.le_refl _, fun _ _ => rfl⟩⟩
  · have K1 : Hid (∀ w, Calls Try.prog 29 #[.string T, .string ⟨#[43]⟩] w fun e w' => e = .returned (.bool false) ∧ w' = w) := fun w => by
      have := Try.strings_HasPrefix T ⟨#[43]⟩ w
      rw [show (⟨#[43]⟩ : ByteArray).data.toList = [43] from rfl, hT, pre_ne 45 43 D (by decide)] at this
      exact this
    have K2 : Hid (∀ w, Calls Try.prog 29 #[.string T, .string ⟨#[45]⟩] w fun e w' => e = .returned (.bool true) ∧ w' = w) := fun w => by
      have := Try.strings_HasPrefix T ⟨#[45]⟩ w
      rw [show (⟨#[45]⟩ : ByteArray).data.toList = [45] from rfl, hT, show Lib.hasPrefix (45 :: D) [45] = true by simp [Lib.hasPrefix]] at this
      exact this
    clear hT hsz
    go_enter Try.func24, Try.ntmps24
    go_wp2_with fail
    refine (K1.out _).mono ?_
    rintro e w1 ⟨rfl, rfl⟩
    go_wp2_with fail
    refine (K2.out _).mono ?_
    rintro e w2 ⟨rfl, rfl⟩
    go_wp2_with fail
    go_quiet (fail)
    go_wp2_with fail
    go_ret2
    exact ⟨rfl, ⟨rfl, rfl, rfl, Nat.le_refl _, fun _ _ => rfl⟩⟩

theorem cut_any (T : ByteArray) (sg D : List UInt8) (hsg : Sg sg) (hT : T.data.toList = sg ++ D) (hd : ∀ c ∈ D, 48 ≤ c.toNat ∧ c.toNat ≤ 57) (h0 : D ≠ []) (hs : T.size ≤ 1000) (w : World) :
    Calls Try.prog 24 #[.string T] w fun e w' => ∃ v, e = .returned (.tuple #[.string ⟨D.toArray⟩, v]) ∧ Below w.heap.size w w' := by
  rcases hsg with rfl | rfl | rfl
  · refine (cut_none T D hT hd h0 w).mono ?_
    rintro e w' ⟨rfl, rfl⟩
    refine ⟨.string ⟨#[]⟩, ?_, Below.refl _ _⟩
    have : T = ⟨D.toArray⟩ := by
      apply ByteArray.ext
      apply Array.toList_inj.1
      simpa using hT
    rw [← this]
  · refine (cut_sign T 43 D hT (.inl rfl) hs w).mono ?_
    rintro e w' ⟨rfl, hb⟩
    exact ⟨_, rfl, hb⟩
  · refine (cut_sign T 45 D hT (.inr rfl) hs w).mono ?_
    rintro e w' ⟨rfl, hb⟩
    exact ⟨_, rfl, hb⟩

theorem without_any (S : ByteArray) (ml : List UInt8) (c : UInt8) (sg D : List UInt8) (hS : S.data.toList = ml ++ c :: (sg ++ D)) (hE : isE c = true) (hno : ∀ d ∈ ml, isE d = false) (hsg : Sg sg)
    (hd : ∀ c ∈ D, 48 ≤ c.toNat ∧ c.toNat ≤ 57) (h0 : D ≠ []) (hD : D.length ≤ 100) (hsz : S.size ≤ 2000000) (w : World) :
    Calls Try.prog 21 #[.string S] w fun e w' => e = .returned (.tuple #[.string ⟨ml.toArray⟩, .bool true]) ∧ Below w.heap.size w w' := by
  have hsgl : sg.length ≤ 1 := by rcases hsg with rfl | rfl | rfl <;> simp
  have hlen : S.size = ml.length + 1 + (sg.length + D.length) := by
    rw [Lib.size_eq, hS, List.length_append, List.length_cons, List.length_append]
    omega
  have he1 : S.extract (ml.length + 1) S.size = ⟨(sg ++ D).toArray⟩ := extract_eq S _ _ _ (by
    rw [hS, hlen, List.drop_append, List.drop_eq_nil_of_le (by omega)]
    simp
    exact List.take_of_length_le (by simp))
  have he2 : S.extract 0 ml.length = ⟨ml.toArray⟩ := extract_eq S _ _ _ (by rw [hS]; simp)
  have KA := hid (any_any S ml c (sg ++ D) hS hE hno hsz w)
  have KC : Hid (∀ w, Calls Try.prog 24 #[.string ⟨(sg ++ D).toArray⟩] w fun e w' => ∃ v, e = .returned (.tuple #[.string ⟨D.toArray⟩, v]) ∧ Below w.heap.size w w') := fun w => cut_any ⟨(sg ++ D).toArray⟩ sg D hsg (by simp) hd h0 (by rw [Lib.size_eq]; simp; omega) w
  have KD : Hid (∀ w, Calls Try.prog 11 #[.string ⟨D.toArray⟩] w fun e w' => e = .returned (.bool true) ∧ w' = w) := fun w => digits_any ⟨D.toArray⟩ (by simpa using hd) (by rw [Lib.size_eq]; simpa using List.length_pos_iff.2 h0) (by rw [Lib.size_eq]; simpa using hD) w
  have hb1 : (ml.length : Int) + 1 ≤ (S.size : Int) := by omega
  have hb2 : (ml.length : Int) ≤ (S.size : Int) := by omega
  generalize (⟨(sg ++ D).toArray⟩ : ByteArray) = T at he1 KC
  generalize (⟨D.toArray⟩ : ByteArray) = DD at KC KD
  clear hS hd h0 hE hno hsg hlen hD hsgl
  go_enter Try.func21, Try.ntmps21
  go_wp2_with fail
  refine KA.out.mono ?_
  rintro e w1 ⟨rfl, hb⟩
  have HB1 := hid hb
  clear hb KA
  go_wp2_with fail
  refine (KC.out _).mono ?_
  rintro e w2 ⟨v2, rfl, hb⟩
  have HB2 := hid (HB1.out.trans (hb.mono HB1.out.size))
  clear hb KC HB1
  go_wp2_with fail
  refine (KD.out _).mono ?_
  rintro e w3 ⟨rfl, rfl⟩
  go_wp2_with fail
  go_ret2
  exact ⟨rfl, HB2.out⟩

end Go.Proofs.Qxb6601839a.E
