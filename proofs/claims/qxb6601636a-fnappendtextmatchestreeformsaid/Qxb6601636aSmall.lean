/-
  THE WALKS of jf1IsWS, jf1IsDelim, jf1SkipWS, jf1Line, newline.
-/
import Derived.Test.Qxb6601636aBuf
namespace Go.Proofs.Qxb6601636a.J
open Go.RowKit
set_option linter.unusedVariables false

theorem ret_bool {a b : Bool} (h : a = b) : Ending.returned (.bool a) = .returned (.bool b) := by rw [h]

set_option maxHeartbeats 400000 in
theorem isWS_any (c : Int) (w : World) : Calls Try.prog 27 #[.int .u8 c] w fun e w' => e = .returned (.bool (isWS c)) ∧ w' = w := by
  unfold isWS
  by_cases h1 : c = 32
  · subst h1
    go_enter Try.func27, Try.ntmps27
    go_wp2
    go_ret
    exact ⟨rfl, rfl⟩
  by_cases h2 : c = 9
  · subst h2
    go_enter Try.func27, Try.ntmps27
    go_wp2
    go_ret
    exact ⟨rfl, rfl⟩
  by_cases h3 : c = 10
  · subst h3
    go_enter Try.func27, Try.ntmps27
    go_wp2
    go_ret
    exact ⟨rfl, rfl⟩
  have e1 : (c == 32) = false := by simpa using h1
  have e2 : (c == 9) = false := by simpa using h2
  have e3 : (c == 10) = false := by simpa using h3
  rw [e1, e2, e3]
  clear h1 h2 h3
  go_enter Try.func27, Try.ntmps27
  go_wp2
  go_ret
  exact ⟨rfl, rfl⟩

theorem isDelim_of (c : Int) (h1 : c ≠ 91) (h2 : c ≠ 93) (h3 : c ≠ 123) (h4 : c ≠ 125) (h5 : c ≠ 44) (h6 : c ≠ 58) (hw : isWS c = false) : isDelim c = (c == 34) := by
  simp [isDelim, hw, h1, h2, h3, h4, h5, h6]

set_option maxHeartbeats 1000000 in
theorem isDelim_any (c : Int) (w : World) : Calls Try.prog 29 #[.int .u8 c] w fun e w' => e = .returned (.bool (isDelim c)) ∧ w' = w := by
  cases hw : isWS c with
  | true =>
    have K := hid (isWS_any c w)
    rw [hw] at K
    have e : isDelim c = true := by simp [isDelim, hw]
    rw [e]
    clear hw e
    go_enter Try.func29, Try.ntmps29
    go_wp2_with fail
    refine K.out.mono ?_
    rintro e w' ⟨rfl, rfl⟩
    go_wp2
    go_ret
    exact ⟨rfl, rfl⟩
  | false =>
    have K := hid (isWS_any c w)
    rw [hw] at K
    have HW := hid hw
    clear hw
    by_cases h1 : c = 91 ∨ c = 93 ∨ c = 123 ∨ c = 125 ∨ c = 44 ∨ c = 58
    · rcases h1 with rfl | rfl | rfl | rfl | rfl | rfl
      all_goals
        clear HW
        go_enter Try.func29, Try.ntmps29
        go_wp2_with fail
        refine K.out.mono ?_
        rintro e w' ⟨rfl, rfl⟩
        go_wp2
        go_ret
        exact ⟨rfl, rfl⟩
    · have HD := hid (isDelim_of c (fun h => h1 (by simp [h])) (fun h => h1 (by simp [h])) (fun h => h1 (by simp [h])) (fun h => h1 (by simp [h])) (fun h => h1 (by simp [h])) (fun h => h1 (by simp [h])) HW.out)
      have e1 : (c == 91) = false := by simp; intro h; exact h1 (by simp [h])
      have e2 : (c == 93) = false := by simp; intro h; exact h1 (by simp [h])
      have e3 : (c == 123) = false := by simp; intro h; exact h1 (by simp [h])
      have e4 : (c == 125) = false := by simp; intro h; exact h1 (by simp [h])
      have e5 : (c == 44) = false := by simp; intro h; exact h1 (by simp [h])
      have e6 : (c == 58) = false := by simp; intro h; exact h1 (by simp [h])
      clear h1
      go_enter Try.func29, Try.ntmps29
      go_wp2_with fail
      refine K.out.mono ?_
      rintro e w' ⟨rfl, rfl⟩
      go_wp2
      go_ret
      exact ⟨ret_bool HD.out.symm, rfl⟩

/-- At a text without a byte. -/
theorem skip_empty (a : Option Addr) (cap : Nat) (k : Nat) (w : World) (hk : k ≤ 1048576) :
    Calls Try.prog 24 #[.slice a 0 cap, .int .i64 k] w fun e w' => e = .returned (.int .i64 k) ∧ w' = w := by
  go_enter Try.func24, Try.ntmps24
  go_wp2
  refine wp_loop_rounds 1 ?_
  rw [rounds_succ]
  go_wp2
  go_ret
  exact ⟨rfl, rfl⟩

set_option maxHeartbeats 400000 in
theorem skip_any (b off n cap : Nat) (xs : List Int) (k : Nat) (w : World) (hx : xs.length = n) (hn : n ≤ 1048576) (hk : k ≤ n)
    (hc : ∀ i, i < n → w.cell? ⟨b, off + i, none⟩ = some (.int .u8 (xs.getD i 0))) :
    Calls Try.prog 24 #[.slice (some ⟨b, off, none⟩) n cap, .int .i64 k] w fun e w' => e = .returned (.int .i64 (skip xs k)) ∧ w' = w := by
  have HX : Hid (xs.length = n) := hx
  clear hx
  go_enter Try.func24, Try.ntmps24
  go_wp2
  go_loop [1] (fun j => ∃ m : Nat, m ≤ n ∧ j = .int .i64 m ∧ skip xs m = skip xs k) (fun j => n - (intOf j).toNat)
  case atStart => exact ⟨k, hk, rfl, rfl⟩
  case round =>
    obtain ⟨m, hm, rfl, hs⟩ := hrel
    have HS := hid hs
    clear hs
    by_cases hlt : m < n
    · have hcm := hc m hlt
      obtain ⟨c, hcd⟩ : ∃ c, c = xs.getD m 0 := ⟨_, rfl⟩
      rw [← hcd] at hcm
      have HC : Hid (c = xs.getD m 0) := hcd
      clear hcd hc
      cases hw : isWS c with
      | true =>
        have K := hid (isWS_any c)
        rw [hw] at K
        have HW := hid hw
        clear hw
        go_wp2_with (go_at_call 27; refine (K.out _).mono ?_; rintro e w' ⟨rfl, rfl⟩)
        go_round
        case rel => exact ⟨m + 1, by omega, by go_num, by rw [skip_ws xs m (by rw [HX.out]; exact hlt) (by rw [← HC.out]; exact HW.out)]; exact HS.out⟩
        case measure => simp [intOf]; omega
      | false =>
        have K := hid (isWS_any c)
        rw [hw] at K
        have HW := hid hw
        clear hw
        go_wp2_with (go_at_call 27; refine (K.out _).mono ?_; rintro e w' ⟨rfl, rfl⟩)
        go_ret
        exact ⟨ret_int (by rw [← HS.out, skip_no xs m (by rw [HX.out]; exact hlt) (by rw [← HC.out]; exact HW.out)]), rfl⟩
    · go_wp2
      go_ret
      exact ⟨ret_int (by rw [← HS.out, skip_stop xs m (by rw [HX.out]; omega)]), rfl⟩

theorem line_succ (ks : List Int) (k : Nat) : ks ++ 10 :: List.replicate (2 * (k + 1)) 32 = ks ++ 10 :: List.replicate (2 * k) 32 ++ [32, 32] := by
  rw [show 2 * (k + 1) = 2 * k + 2 by omega, ← List.replicate_append_replicate]; simp

set_option maxHeartbeats 800000 in
theorem line_any {W : World} {ao : Option Addr} {len : Nat} {olds : List Value} {w : World} {v : Value} {ks : List Int} (d : Int) (h : Buf W ao len olds w v ks) (hb : len + ks.length + (2 * d.toNat + 1) ≤ 1099511627776) (hd : d ≤ 1099511627776) (hd0 : -9223372036854775808 ≤ d) :
    Calls Try.prog 31 #[v, .int .i64 d] w fun e w' => ∃ v', e = .returned v' ∧ Buf W ao len olds w' v' (ks ++ line d) := by
  have HB := hid h
  clear h
  go_enter Try.func31, Try.ntmps31
  go_wp2_with (at_builtin; refine app1 rfl (.tmp 6) (.tmp 7) rfl rfl HB.out rfl (by omega) ?_; intro v1 w1 hb1; have HB1 := hid hb1; clear hb1 HB)
  go_loopw [0, 5] (fun v k wr => ∃ m : Nat, m ≤ d.toNat ∧ k = .int .i64 m ∧ Buf W ao len olds wr v (ks ++ 10 :: List.replicate (2 * m) 32)) (fun _ k _ => d.toNat - (intOf k).toNat)
  case atStart => exact ⟨0, by omega, rfl, by simpa using HB1.out⟩
  case round =>
    obtain ⟨m, hm, rfl, hbm⟩ := hrel
    have HBM := hid hbm
    clear hbm HB1
    by_cases hlt : m < d.toNat
    · have hl : (ks ++ 10 :: List.replicate (2 * m) (32 : Int)).length = ks.length + (2 * m + 1) := by simp
      have HL := hid hl
      clear hl
      go_wp2_with (at_builtin; refine app2 rfl (.tmp 14) (.tmp 15) rfl rfl HBM.out rfl (by rw [HL.out]; omega) ?_; intro v2 w2 hb2; have HB2 := hid hb2; clear hb2 HBM)
      go_roundw
      case rel => exact ⟨m + 1, by omega, by go_num, by rw [line_succ]; exact HB2.out⟩
      case measure => simp [intOf]; omega
    · have he : m = d.toNat := by omega
      have HE := hid he
      clear he
      have hge : d ≤ m := by omega
      go_wp2
      go_ret
      refine ⟨_, rfl, ?_⟩
      have := HBM.out
      rw [HE.out] at this
      exact this

set_option maxHeartbeats 800000 in
theorem newline_any {W : World} {ao : Option Addr} {len : Nat} {olds : List Value} {w : World} {v : Value} {ks : List Int} (d : Int) (h : Buf W ao len olds w v ks) (hb : len + ks.length + (2 * d.toNat + 1) ≤ 1099511627776) (hd : d ≤ 1099511627776) (hd0 : -9223372036854775808 ≤ d) :
    Calls Try.prog 25 #[v, .int .i64 d] w fun e w' => ∃ v', e = .returned v' ∧ Buf W ao len olds w' v' (ks ++ line d) := by
  have HB := hid h
  clear h
  go_enter Try.func25, Try.ntmps25
  go_wp2_with (at_builtin; refine app1 rfl (.tmp 5) (.tmp 6) rfl rfl HB.out rfl (by omega) ?_; intro v1 w1 hb1; have HB1 := hid hb1; clear hb1 HB)
  go_loopw [0, 9] (fun v k wr => ∃ m : Nat, m ≤ d.toNat ∧ k = .int .i64 m ∧ Buf W ao len olds wr v (ks ++ 10 :: List.replicate (2 * m) 32)) (fun _ k _ => d.toNat - (intOf k).toNat)
  case atStart => exact ⟨0, by omega, rfl, by simpa using HB1.out⟩
  case round =>
    obtain ⟨m, hm, rfl, hbm⟩ := hrel
    have HBM := hid hbm
    clear hbm HB1
    by_cases hlt : m < d.toNat
    · have hl : (ks ++ 10 :: List.replicate (2 * m) (32 : Int)).length = ks.length + (2 * m + 1) := by simp
      have HL := hid hl
      clear hl
      go_wp2_with (at_builtin; refine appS rfl (.tmp 11) (.const (.string ⟨#[32, 32]⟩)) rfl rfl HBM.out rfl (by rw [HL.out]; omega) ?_; intro v2 w2 hb2; have HB2 := hid hb2; clear hb2 HBM)
      go_roundw
      case rel => exact ⟨m + 1, by omega, by go_num, by rw [line_succ]; exact HB2.out⟩
      case measure => simp [intOf]; omega
    · have he : m = d.toNat := by omega
      have HE := hid he
      clear he
      have hge : d ≤ m := by omega
      go_wp2
      go_ret
      refine ⟨_, rfl, ?_⟩
      have := HBM.out
      rw [HE.out] at this
      exact this

end Go.Proofs.Qxb6601636a.J
