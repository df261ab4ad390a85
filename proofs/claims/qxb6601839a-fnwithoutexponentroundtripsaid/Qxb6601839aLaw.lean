/-
  THE WALK of FnWithoutExponentRoundTrip.
-/
import Derived.Test.Qxb6601839aCut
namespace Go.Proofs.Qxb6601839a.E
open Go.RowKit
set_option linter.unusedVariables false

theorem zz_any (S : ByteArray) (ml : List UInt8) (KW : ∀ w, Calls Try.prog 21 #[.string S] w fun e w' => e = .returned (.tuple #[.string ⟨ml.toArray⟩, .bool true]) ∧ Below w.heap.size w w') (w : World) :
    Calls Try.prog 15 #[.string S] w fun e w' => e = .returned (.tuple #[.string ⟨ml.toArray⟩, .bool true]) ∧ Below w.heap.size w w' := by
  have K := hid KW
  clear KW
  go_enter Try.func15, Try.ntmps15
  go_wp2_with fail
  refine (K.out _).mono ?_
  rintro e w1 ⟨rfl, hb⟩
  have HB := hid hb
  clear hb K
  go_wp2_with fail
  go_ret2
  exact ⟨rfl, HB.out⟩

theorem bytes_any (m : ByteArray) (hm : m.size ≤ maxLen) (u : Int) (b1 b2 b3 : Bool) (b : Bool) (hb : b = decide (m.size ≤ 1048576)) (w : World) :
    Calls Try.prog 17 #[.string m, .int .u64 u, .bool b1, .bool b2, .bool b3] w fun e w' => e = .returned (.bool b) ∧ w' = w := by
  unfold maxLen at hm
  by_cases h : m.size ≤ 1048576
  · have : b = true := by rw [hb]; simpa using h
    subst this
    clear hb
    go_enter Try.func17, Try.ntmps17
    go_wp2_with fail
    go_ret
    exact ⟨rfl, rfl⟩
  · have : b = false := by rw [hb]; simpa using h
    subst this
    clear hb
    go_enter Try.func17, Try.ntmps17
    go_wp2_with fail
    go_ret
    exact ⟨rfl, rfl⟩

theorem mk_list (m : ByteArray) : (⟨m.data.toList.toArray⟩ : ByteArray) = m := by cases m; simp

theorem dec_len (k : Nat) : ∀ u, u < 10 ^ (k + 1) → (Lib.decDigits u).length ≤ k + 1 := by
  induction k with
  | zero => intro u h; rw [Lib.decDigits_one (by omega)]; simp
  | succ k ih =>
    intro u h
    by_cases hu : u < 10
    · rw [Lib.decDigits_one hu]; simp
    · rw [dec_big hu, List.length_append]
      have := ih (u / 10) (by rw [Nat.pow_succ] at h; omega)
      simp
      omega

set_option maxHeartbeats 4000000 in
set_option maxRecDepth 100000 in
theorem law_walk (m : ByteArray) (a1 : Int) (a2 a3 a4 : Bool) (w0 : m.size ≤ maxLen) (hu0 : 0 ≤ a1) (hu1 : a1 < 18446744073709551616) (w : World) :
    Calls Try.prog 7 #[.string m, .int .u64 a1, .bool a2, .bool a3, .bool a4] w fun e w' => e = .returned (.bool true) ∧ Below w.heap.size w w' := by
  have KB := hid (bytes_any m w0 a1 a2 a3 a4 _ rfl w)
  by_cases hm : m.size ≤ 1048576
  · rw [decide_eq_true hm] at KB
    by_cases hm2 : m.size ≤ 1048544
    · obtain ⟨u, rfl⟩ : ∃ u : Nat, a1 = u := ⟨a1.toNat, by omega⟩
      have hu : u < 18446744073709551616 := by omega
      cases hany : m.data.toList.any isE with
      | true =>
        have KH := hid (hasMark_any m (by omega) true hany)
        have hz : ¬ (1048544 : Int) < (m.size : Int) := by omega
        clear hany w0 hm hm2 hu hu0 hu1
        go_enter Try.func7, Try.ntmps7
        go_wp2_with fail
        refine KB.out.mono ?_
        rintro e w1 ⟨rfl, rfl⟩
        go_wp2_with fail
        refine (KH.out _).mono ?_
        rintro e w2 ⟨rfl, rfl⟩
        go_wp2_with fail
        go_ret
        exact ⟨rfl, Below.refl _ _⟩
      | false =>
        have KH := hid (hasMark_any m (by omega) false hany)
        have KI := hid (itoa_any u hu)
        have hno : ∀ d ∈ m.data.toList, isE d = false := by
          intro d hd
          cases h : isE d with
          | false => rfl
          | true => rw [List.any_eq_true.2 ⟨d, hd, h⟩] at hany; cases hany
        have hD0 := dec_ne_nil u
        have hDl : (Lib.decDigits u).length ≤ 100 := Nat.le_trans (dec_len 19 u (by omega)) (by omega)
        have KW : Hid (∀ (c : UInt8) (sg : List UInt8), isE c = true → Sg sg → ∀ w, Calls Try.prog 15 #[.string (((m ++ ⟨#[c]⟩) ++ ⟨sg.toArray⟩) ++ ⟨(Lib.decDigits u).toArray⟩)] w fun e w' => e = .returned (.tuple #[.string m, .bool true]) ∧ Below w.heap.size w w') := by
          intro c sg hc hsg w
          have hsgl : sg.length ≤ 1 := by rcases hsg with rfl | rfl | rfl <;> simp
          have := zz_any _ m.data.toList (without_any (((m ++ ⟨#[c]⟩) ++ ⟨sg.toArray⟩) ++ ⟨(Lib.decDigits u).toArray⟩) m.data.toList c sg (Lib.decDigits u) (by simp) hc hno hsg (dec_digit u) hD0 hDl (by rw [Lib.size_eq]; simp; have := Lib.size_eq m; omega)) w
          rw [mk_list] at this
          exact this
        generalize hDD : (⟨(Lib.decDigits u).toArray⟩ : ByteArray) = DD at KW KI
        have hDs : DD.size ≤ 100 := by rw [← hDD, Lib.size_eq]; simpa using hDl
        have hz : ¬ (1048544 : Int) < (m.size : Int) := by omega
        clear hany w0 hno hD0 hDl hDD hm hm2 hu hu0 hu1
        have KW1 := KW.out 101 [] rfl (.inl rfl)
        have KW2 := KW.out 101 [43] rfl (.inr (.inl rfl))
        have KW3 := KW.out 101 [45] rfl (.inr (.inr rfl))
        have KW4 := KW.out 69 [] rfl (.inl rfl)
        have KW5 := KW.out 69 [43] rfl (.inr (.inl rfl))
        have KW6 := KW.out 69 [45] rfl (.inr (.inr rfl))
        have HW1 : Hid (∀ w, Calls Try.prog 15 #[.string (m ++ ⟨#[101]⟩ ++ ⟨#[]⟩ ++ DD)] w fun e w' => e = .returned (.tuple #[.string m, .bool true]) ∧ Below w.heap.size w w') := KW1
        have HW2 : Hid (∀ w, Calls Try.prog 15 #[.string (m ++ ⟨#[101]⟩ ++ ⟨#[43]⟩ ++ DD)] w fun e w' => e = .returned (.tuple #[.string m, .bool true]) ∧ Below w.heap.size w w') := KW2
        have HW3 : Hid (∀ w, Calls Try.prog 15 #[.string (m ++ ⟨#[101]⟩ ++ ⟨#[45]⟩ ++ DD)] w fun e w' => e = .returned (.tuple #[.string m, .bool true]) ∧ Below w.heap.size w w') := KW3
        have HW4 : Hid (∀ w, Calls Try.prog 15 #[.string (m ++ ⟨#[69]⟩ ++ ⟨#[]⟩ ++ DD)] w fun e w' => e = .returned (.tuple #[.string m, .bool true]) ∧ Below w.heap.size w w') := KW4
        have HW5 : Hid (∀ w, Calls Try.prog 15 #[.string (m ++ ⟨#[69]⟩ ++ ⟨#[43]⟩ ++ DD)] w fun e w' => e = .returned (.tuple #[.string m, .bool true]) ∧ Below w.heap.size w w') := KW5
        have HW6 : Hid (∀ w, Calls Try.prog 15 #[.string (m ++ ⟨#[69]⟩ ++ ⟨#[45]⟩ ++ DD)] w fun e w' => e = .returned (.tuple #[.string m, .bool true]) ∧ Below w.heap.size w w') := KW6
        clear KW KW1 KW2 KW3 KW4 KW5 KW6
        cases a2 <;> cases a4 <;> cases a3
        all_goals
          go_enter Try.func7, Try.ntmps7
          go_wp2_with fail
          refine KB.out.mono ?_
          rintro e w1 ⟨rfl, rfl⟩
          go_wp2_with fail
          refine (KH.out _).mono ?_
          rintro e w2 ⟨rfl, rfl⟩
          go_wp2_with fail
          refine (KI.out _).mono ?_
          rintro e w3 ⟨rfl, hb3⟩
          have HB3 := hid hb3
          clear hb3
          go_wp2_with fail
        · refine (HW1.out _).mono ?_
          rintro e w4 ⟨rfl, hb4⟩
          have HB4 := hid (HB3.out.trans (hb4.mono HB3.out.size))
          clear hb4
          go_wp2_with fail
          go_ret
          exact ⟨ret_bool (by simp), HB4.out⟩
        · refine (HW2.out _).mono ?_
          rintro e w4 ⟨rfl, hb4⟩
          have HB4 := hid (HB3.out.trans (hb4.mono HB3.out.size))
          clear hb4
          go_wp2_with fail
          go_ret
          exact ⟨ret_bool (by simp), HB4.out⟩
        · refine (HW3.out _).mono ?_
          rintro e w4 ⟨rfl, hb4⟩
          have HB4 := hid (HB3.out.trans (hb4.mono HB3.out.size))
          clear hb4
          go_wp2_with fail
          go_ret
          exact ⟨ret_bool (by simp), HB4.out⟩
        · refine (HW3.out _).mono ?_
          rintro e w4 ⟨rfl, hb4⟩
          have HB4 := hid (HB3.out.trans (hb4.mono HB3.out.size))
          clear hb4
          go_wp2_with fail
          go_ret
          exact ⟨ret_bool (by simp), HB4.out⟩
        · refine (HW4.out _).mono ?_
          rintro e w4 ⟨rfl, hb4⟩
          have HB4 := hid (HB3.out.trans (hb4.mono HB3.out.size))
          clear hb4
          go_wp2_with fail
          go_ret
          exact ⟨ret_bool (by simp), HB4.out⟩
        · refine (HW5.out _).mono ?_
          rintro e w4 ⟨rfl, hb4⟩
          have HB4 := hid (HB3.out.trans (hb4.mono HB3.out.size))
          clear hb4
          go_wp2_with fail
          go_ret
          exact ⟨ret_bool (by simp), HB4.out⟩
        · refine (HW6.out _).mono ?_
          rintro e w4 ⟨rfl, hb4⟩
          have HB4 := hid (HB3.out.trans (hb4.mono HB3.out.size))
          clear hb4
          go_wp2_with fail
          go_ret
          exact ⟨ret_bool (by simp), HB4.out⟩
        · refine (HW6.out _).mono ?_
          rintro e w4 ⟨rfl, hb4⟩
          have HB4 := hid (HB3.out.trans (hb4.mono HB3.out.size))
          clear hb4
          go_wp2_with fail
          go_ret
          exact ⟨ret_bool (by simp), HB4.out⟩
    · clear hu0 hu1 w0
      go_enter Try.func7, Try.ntmps7
      go_wp2_with fail
      refine KB.out.mono ?_
      rintro e w1 ⟨rfl, rfl⟩
      go_wp2_with fail
      go_ret
      exact ⟨rfl, Below.refl _ _⟩
  · rw [decide_eq_false hm] at KB
    clear hu0 hu1
    go_enter Try.func7, Try.ntmps7
    go_wp2_with fail
    refine KB.out.mono ?_
    rintro e w1 ⟨rfl, rfl⟩
    go_wp2_with fail
    go_ret
    exact ⟨rfl, Below.refl _ _⟩

end Go.Proofs.Qxb6601839a.E
