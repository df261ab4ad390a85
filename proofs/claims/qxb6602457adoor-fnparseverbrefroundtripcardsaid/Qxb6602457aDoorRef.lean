/-
  THE WALKS of parseVerbRef, ZZParseVerbRef.
-/
import Derived.Test.Qxb6602457aDoorMinus
namespace Go.Proofs.Qxb6602457aDoor.V
open Go.RowKit
set_option linter.unusedVariables false

/-- What the road reads of memory that came in: bytealg.MaxLen, whatever int; strconv.ErrSyntax, whatever error value. -/
structure Env (w : World) : Prop where
  max : ∃ m, w.cell? ⟨0, 0, none⟩ = some (.int .i64 m)
  err : ∃ ev, w.cell? ⟨1, 0, none⟩ = some ev ∧ (ev = .nilIface ∨ ∃ te pe, ev = .iface te pe)
theorem Env.below {w w' : World} (h : Env w) (hb : Below w.heap.size w w') : Env w' := by
  obtain ⟨⟨m, hm⟩, ev, he, hev⟩ := h
  exact ⟨⟨m, by rw [hb.cell (World.block_lt_of_cell? _ _ hm)]; exact hm⟩, ev, by rw [hb.cell (World.block_lt_of_cell? _ _ he)]; exact he, hev⟩

theorem index_colon (l r : List UInt8) (h : ∀ c ∈ l, c ≠ 58) : Lib.indexByte (l ++ 58 :: r) 58 = l.length := by
  induction l with
  | nil => simp [Lib.indexByte]
  | cons a l ih =>
    have ha : (a == 58) = false := by simpa using h a (by simp)
    have ih' := ih (fun c hc => h c (by simp [hc]))
    rw [List.cons_append, Lib.indexByte, ha, ih']
    simp
theorem cut_colon (l r : List UInt8) (h : ∀ c ∈ l, c ≠ 58) : Lib.cut (l ++ 58 :: r) [58] = (l, r, true) := by
  have hi : Lib.index (l ++ 58 :: r) [58] = l.length := by rw [Lib.index_one]; exact index_colon l r h
  unfold Lib.cut
  simp [hi]

theorem sgx_no_colon (neg : Bool) (m : Nat) : ∀ c ∈ sgx neg m, c ≠ 58 := by
  intro c hc h
  subst h
  unfold sgx at hc
  rw [List.mem_append] at hc
  rcases hc with hc | hc
  · cases neg <;> simp at hc
  · have := dec_digit m 58 hc
    simp at this
theorem sgx_len (neg : Bool) (m : Nat) (h : m ≤ 9223372036854775808) : (sgx neg m).length ≤ 21 := by
  have := dec_len 19 m (by omega)
  unfold sgx
  cases neg <;> simp <;> omega

/-- ParseUint at the text of a number: what it gives, and whether an error. -/
theorem parse_any (neg : Bool) (m : Nat) (h : m ≤ 9223372036854775808) (h2 : neg = false → m < 9223372036854775808) (w : World) (he : Env w) :
    Calls Tryd.prog 14 #[.string ⟨(sgx neg m).toArray⟩, .int .i64 10, .int .i64 63] w fun e w' => (if neg = true then ∃ N, e = .returned (.tuple #[.int .u64 0, .iface 47 (.pointer (some ⟨N, 0, none⟩))]) else e = .returned (.tuple #[.int .u64 m, .nilIface])) ∧ Below w.heap.size w w' := by
  have hl := sgx_len neg m h
  have hsz : (⟨(sgx neg m).toArray⟩ : ByteArray).size ≤ 1000 := by rw [Lib.size_eq]; simp; omega
  cases neg with
  | true =>
    obtain ⟨_, ev, hv, hev⟩ := he
    refine (parse_minus ⟨(sgx true m).toArray⟩ (Lib.decDigits m) (by simp [sgx]) hsz ev w hv hev).mono ?_
    rintro e w' ⟨N, rfl, hb⟩
    exact ⟨by rw [if_pos rfl]; exact ⟨N, rfl⟩, hb⟩
  | false =>
    have e1 : (⟨(sgx false m).toArray⟩ : ByteArray).data.toList = Lib.decDigits m := by simp [sgx]
    refine (parse_ok ⟨(sgx false m).toArray⟩ (by rw [Lib.size_eq, e1]; have := List.length_pos_iff.2 (dec_ne_nil m); omega) hsz (by rw [e1]; exact dec_digit m) m (by rw [e1]; exact num_dec m) (h2 rfl) w).mono ?_
    rintro e w' ⟨rfl, hb⟩
    exact ⟨by rw [if_neg (by simp)], hb⟩

theorem cutp_any (X : List UInt8) (w : World) : Calls Tryd.prog 12 #[.string ⟨(35 :: X).toArray⟩, .string ⟨#[35]⟩] w fun e w' => e = .returned (.tuple #[.string ⟨X.toArray⟩, .bool true]) ∧ w' = w := by
  have h := Tryd.strings_CutPrefix ⟨(35 :: X).toArray⟩ ⟨#[35]⟩ w
  have e1 : (⟨(35 :: X).toArray⟩ : ByteArray).data.toList = 35 :: X := by simp
  have e2 : (⟨#[35]⟩ : ByteArray).data.toList = [35] := rfl
  have e3 : Lib.hasPrefix (35 :: X) [35] = true := by simp [Lib.hasPrefix]
  rw [e1, e2, e3] at h
  unfold Lib.trimPrefix at h
  rw [e3, if_pos rfl] at h
  exact h

theorem cutc_any (A B : List UInt8) (hA : ∀ c ∈ A, c ≠ 58) (hs : (A ++ 58 :: B).length ≤ 1000) (w : World) (he : Env w) :
    Calls Tryd.prog 13 #[.string ⟨(A ++ 58 :: B).toArray⟩, .string ⟨#[58]⟩] w fun e w' => e = .returned (.tuple #[.string ⟨A.toArray⟩, .string ⟨B.toArray⟩, .bool true]) ∧ Below w.heap.size w w' := by
  obtain ⟨m, hm⟩ := he.max
  have h := Tryd.strings_Cut ⟨(A ++ 58 :: B).toArray⟩ ⟨#[58]⟩ m w (by rw [Lib.size_eq]; show (A ++ 58 :: B).length < _; omega) hm
  have e1 : (⟨(A ++ 58 :: B).toArray⟩ : ByteArray).data.toList = A ++ 58 :: B := by simp
  have e2 : (⟨#[58]⟩ : ByteArray).data.toList = [58] := rfl
  rw [e1, e2, cut_colon A B hA] at h
  refine h.mono ?_
  rintro e w' ⟨rfl, n, rfl⟩
  exact ⟨rfl, ⟨rfl, rfl, rfl, Nat.le_refl _, fun _ _ => rfl⟩⟩

/-- What parseVerbRef gives. -/
def ans (n1 n2 : Bool) (m1 m2 : Nat) : Value := if n1 = false ∧ n2 = false then .tuple #[.int .i64 m1, .int .i64 m2, .bool true] else .tuple #[.int .i64 0, .int .i64 0, .bool false]

set_option maxHeartbeats 4000000 in
theorem ref_any (n1 n2 : Bool) (m1 m2 : Nat) (h1 : m1 ≤ 9223372036854775808) (h1' : n1 = false → m1 < 9223372036854775808) (h2 : m2 ≤ 9223372036854775808) (h2' : n2 = false → m2 < 9223372036854775808) (w : World) (he : Env w) :
    Calls Tryd.prog 9 #[.string ⟨(35 :: (sgx n1 m1 ++ 58 :: sgx n2 m2)).toArray⟩] w fun e w' => e = .returned (ans n1 n2 m1 m2) ∧ Below w.heap.size w w' := by
  have l1 := sgx_len n1 m1 h1
  have l2 := sgx_len n2 m2 h2
  have KP := hid (cutp_any (sgx n1 m1 ++ 58 :: sgx n2 m2) w)
  have KC := hid (cutc_any (sgx n1 m1) (sgx n2 m2) (sgx_no_colon n1 m1) (by simp; omega) w he)
  have K1 : Hid (∀ w, Env w → _) := fun w he => parse_any n1 m1 h1 h1' w he
  have K2 : Hid (∀ w, Env w → _) := fun w he => parse_any n2 m2 h2 h2' w he
  have HE := hid he
  generalize (⟨(35 :: (sgx n1 m1 ++ 58 :: sgx n2 m2)).toArray⟩ : ByteArray) = T at KP
  generalize (⟨(sgx n1 m1 ++ 58 :: sgx n2 m2).toArray⟩ : ByteArray) = T2 at KP KC
  generalize (⟨(sgx n1 m1).toArray⟩ : ByteArray) = A at KC K1
  generalize (⟨(sgx n2 m2).toArray⟩ : ByteArray) = B at KC K2
  clear l1 l2 he
  go_enter Tryd.func9, Tryd.ntmps9
  go_wp2_with fail
  refine KP.out.mono ?_
  rintro e w1 ⟨rfl, rfl⟩
  clear KP
  go_wp2_with fail
  refine KC.out.mono ?_
  rintro e w2 ⟨rfl, hb⟩
  have HB2 := hid hb
  clear hb KC
  go_wp2_with fail
  refine (K1.out _ (HE.out.below HB2.out)).mono ?_
  rintro e w3 ⟨hr, hb⟩
  have HB3 := hid (HB2.out.trans (hb.mono HB2.out.size))
  clear hb K1
  cases n1 with
  | true =>
    rw [if_pos rfl] at hr
    obtain ⟨N, rfl⟩ := hr
    go_wp2_with fail
    go_ret3
    exact ⟨rfl, HB3.out⟩
  | false =>
    rw [if_neg (by simp)] at hr
    subst hr
    have hm1 := h1' rfl
    go_wp2_with fail
    refine (K2.out _ (HE.out.below HB3.out)).mono ?_
    rintro e w4 ⟨hr, hb⟩
    have HB4 := hid (HB3.out.trans (hb.mono HB3.out.size))
    clear hb K2
    cases n2 with
    | true =>
      rw [if_pos rfl] at hr
      obtain ⟨N, rfl⟩ := hr
      go_wp2_with fail
      go_ret3
      exact ⟨rfl, HB4.out⟩
    | false =>
      rw [if_neg (by simp)] at hr
      subst hr
      have hm2 := h2' rfl
      go_wp2_with fail
      go_ret3
      exact ⟨rfl, HB4.out⟩

theorem zz_any (T : ByteArray) (n1 n2 : Bool) (m1 m2 : Nat) (w : World) (K : Calls Tryd.prog 9 #[.string T] w fun e w' => e = .returned (ans n1 n2 m1 m2) ∧ Below w.heap.size w w') :
    Calls Tryd.prog 6 #[.string T] w fun e w' => e = .returned (ans n1 n2 m1 m2) ∧ Below w.heap.size w w' := by
  have KK := hid K
  clear K
  cases h : (n1 == false && n2 == false) with
  | true =>
    have e1 : ans n1 n2 m1 m2 = .tuple #[.int .i64 m1, .int .i64 m2, .bool true] := by unfold ans; simp at h; rw [if_pos h]
    rw [e1] at KK ⊢
    clear h e1
    go_enter Tryd.func6, Tryd.ntmps6
    go_wp2_with fail
    refine KK.out.mono ?_
    rintro e w1 ⟨rfl, hb⟩
    have HB := hid hb
    clear hb KK
    go_wp2_with fail
    go_ret3
    exact ⟨rfl, HB.out⟩
  | false =>
    have e1 : ans n1 n2 m1 m2 = .tuple #[.int .i64 0, .int .i64 0, .bool false] := by unfold ans; simp at h; rw [if_neg (by simpa using h)]
    rw [e1] at KK ⊢
    clear h e1
    go_enter Tryd.func6, Tryd.ntmps6
    go_wp2_with fail
    refine KK.out.mono ?_
    rintro e w1 ⟨rfl, hb⟩
    have HB := hid hb
    clear hb KK
    go_wp2_with fail
    go_ret3
    exact ⟨rfl, HB.out⟩

end Go.Proofs.Qxb6602457aDoor.V
