/-
  THE WALK of AppendText: each round is one or two steps of the machine.
-/
import Derived.Test.Qxb6601636aForm
namespace Go.Proofs.Qxb6601636a.J
open Go.RowKit
set_option linter.unusedVariables false

theorem step_close_d {xs : List Int} {o : Bool} {f : Nat} {d : Int} {D : List Int} {p : Nat} {t : St} (hp : p < xs.length) (hc : xs.getD p 0 = 93 ∨ xs.getD p 0 = 125) (ho : o = true ∨ f = 0)
    (h : step xs ⟨p, o, f, d, D⟩ = some t) : -9223372036854775808 < d := by
  apply Classical.byContradiction
  intro hn
  unfold step at h
  rcases ho with rfl | rfl
  · rcases hc with hc | hc <;> simp only [hc] at h <;> simp [isWS, hp, hn] at h
  · cases o <;> rcases hc with hc | hc <;> simp only [hc] at h <;> simp [isWS, hp, hn] at h

theorem step_str_ge {xs : List Int} {f : Nat} {d : Int} {D : List Int} {p : Nat} {t : St} (hp : p < xs.length) (hc : xs.getD p 0 = 34) (h : step xs ⟨p, false, f, d, D⟩ = some t) : 0 ≤ scAt xs (p + 1) := by
  apply Classical.byContradiction
  intro hn
  unfold step at h
  simp only [hc] at h
  simp [isWS, hp, hn] at h

theorem step_ws (xs : List Int) (o : Bool) (f : Nat) (d : Int) (D : List Int) (p : Nat) (hp : p < xs.length) (hw : isWS (xs.getD p 0) = true) : step xs ⟨p, o, f, d, D⟩ = some ⟨p + 1, o, f, d, D⟩ := by
  unfold step
  rw [if_pos hp, if_pos hw]

theorem other_del {c : Int} (h : c ≠ 32 ∧ c ≠ 9 ∧ c ≠ 10 ∧ c ≠ 13 ∧ c ≠ 34 ∧ c ≠ 91 ∧ c ≠ 123 ∧ c ≠ 93 ∧ c ≠ 125 ∧ c ≠ 44 ∧ c ≠ 58) : isDelim c = false ∧ isWS c = false := by
  obtain ⟨h1, h2, h3, h4, h5, h6, h7, h8, h9, h10, h11⟩ := h
  simp [isDelim, isWS, h1, h2, h3, h4, h5, h6, h7, h8, h9, h10, h11]

set_option maxHeartbeats 8000000 in
set_option maxRecDepth 100000 in
theorem appendText_any {W : World} {ao : Option Addr} {len : Nat} {olds : List Value} {tb toff n cap : Nat} {xs : List Int} (T : Txt W tb toff n cap xs) (hz : ∀ z ∈ xs, 0 ≤ z ∧ z ≤ 255) (d : Int) (hd1 : -9223372036854775808 ≤ d) (hd2 : d ≤ 9223372036854775807)
    (app : List Int) (happ : app.length ≤ 8 * n) (hlen : len ≤ 524288) (hb : Buf W ao len olds W (.slice ao len len) []) (hrun : Runs xs ⟨0, false, 0, d, []⟩ ⟨n, false, 0, d, app⟩) :
    Calls Try.prog 12 #[.slice ao len len, .slice (some ⟨tb, toff, none⟩) n cap, .int .i64 d] W fun e w' => ∃ v', e = .returned v' ∧ Buf W ao len olds w' v' app := by
  have HT := hid T
  have HB := hid hb
  have HZ := hid hz
  have HRUN := hid hrun
  have hcap := T.le
  have hmax := T.max
  unfold maxLen at hmax
  have hsm := T.small
  have HFIN : Hid ((⟨n, false, 0, d, app⟩ : St).i = xs.length) := by show n = xs.length; rw [T.len]
  clear T hb hrun hz
  go_enter Try.func12, Try.ntmps12
  go_wp2_with fail
  go_loopw [0, 2, 7, 8, 9] (fun v x2 x7 x8 x9 wr => ∃ s : St, x2 = .int .i64 s.d ∧ x7 = .bool s.o ∧ x8 = .int .i64 s.f ∧ x9 = .int .i64 s.i ∧ s.f ≤ s.i ∧ s.i ≤ n ∧ -9223372036854775808 ≤ s.d ∧ s.d ≤ 9223372036854775807 ∧
      Buf W ao len olds wr v s.out ∧ Runs xs s ⟨n, false, 0, d, app⟩) (fun _ _ _ _ x9 _ => n - (intOf x9).toNat)
  case atStart => exact ⟨⟨0, false, 0, d, []⟩, rfl, rfl, rfl, rfl, Nat.le_refl _, Nat.zero_le _, hd1, hd2, HB.out, HRUN.out⟩
  case round =>
    clear hd1 hd2 HRUN HB
    obtain ⟨⟨i, o, f, dd, out⟩, rfl, rfl, rfl, rfl, hfi, hin, hd1, hd2, hbr, hrr⟩ := hrel
    simp only at hfi hin hd1 hd2 hbr
    have HB := hid hbr
    have HRR := hid hrr
    clear hbr hrr
    by_cases hlt : i < n
    · have HIN : Hid (i < xs.length) := by show _ < _; rw [HT.out.len]; exact hlt
      have hcell := HT.out.at HB.out.kept i hlt
      have hol : out.length ≤ app.length := HRR.out.len
      obtain ⟨s1, hst, hrun1⟩ := HRR.out.next HIN.out HFIN.out
      have HRX := hid hrun1
      clear hrun1 HRR
      obtain ⟨c, hcd⟩ : ∃ c, c = xs.getD i 0 := ⟨_, rfl⟩
      rw [← hcd] at hcell
      have HCD : Hid (c = xs.getD i 0) := hcd
      clear hcd
      by_cases h32 : c = 32
      · subst h32
        rw [step_ws xs o f dd out i HIN.out (by rw [← HCD.out]; rfl)] at hst
        obtain rfl := Option.some.inj hst
        clear hst
        go_wp2_with fail
        go_roundw
        case rel => exact ⟨_, rfl, rfl, rfl, by go_num, by first | (dsimp only; omega) | omega, by first | (dsimp only; omega) | omega, hd1, hd2, HB.out, HRX.out⟩
        case measure => simp [intOf]; omega
      by_cases h9 : c = 9
      · subst h9
        rw [step_ws xs o f dd out i HIN.out (by rw [← HCD.out]; rfl)] at hst
        obtain rfl := Option.some.inj hst
        clear hst
        go_wp2_with fail
        go_roundw
        case rel => exact ⟨_, rfl, rfl, rfl, by go_num, by first | (dsimp only; omega) | omega, by first | (dsimp only; omega) | omega, hd1, hd2, HB.out, HRX.out⟩
        case measure => simp [intOf]; omega
      by_cases h10 : c = 10
      · subst h10
        rw [step_ws xs o f dd out i HIN.out (by rw [← HCD.out]; rfl)] at hst
        obtain rfl := Option.some.inj hst
        clear hst
        go_wp2_with fail
        go_roundw
        case rel => exact ⟨_, rfl, rfl, rfl, by go_num, by first | (dsimp only; omega) | omega, by first | (dsimp only; omega) | omega, hd1, hd2, HB.out, HRX.out⟩
        case measure => simp [intOf]; omega
      by_cases h13 : c = 13
      · subst h13
        rw [step_ws xs o f dd out i HIN.out (by rw [← HCD.out]; rfl)] at hst
        obtain rfl := Option.some.inj hst
        clear hst
        go_wp2_with fail
        go_roundw
        case rel => exact ⟨_, rfl, rfl, rfl, by go_num, by first | (dsimp only; omega) | omega, by first | (dsimp only; omega) | omega, hd1, hd2, HB.out, HRX.out⟩
        case measure => simp [intOf]; omega
      by_cases h34 : c = 34
      · subst h34
        cases o with
        | true =>
          rw [step_opened xs f dd out i HIN.out (by rw [← HCD.out]; rfl) (by rw [← HCD.out]; decide) (by rw [← HCD.out]; decide)] at hst
          obtain rfl := Option.some.inj hst
          clear hst
          have hll := HRX.out.len
          simp only [List.length_append, length_line] at hll
          obtain ⟨s2, hst, hrun2⟩ := HRX.out.next HIN.out HFIN.out
          have HRX := hid hrun2
          clear hrun2
          have hol : (out ++ line dd).length ≤ app.length := by simp only [List.length_append, length_line]; exact hll
          go_wp2_with fail
          refine (newline_any dd HB.out (by omega) (by omega) (by omega)).mono ?_
          rintro e w6 ⟨v6, rfl, hb6⟩
          have HB6 := hid hb6
          clear hb6
          generalize hout : out ++ line dd = out6 at hst hol HB6
          clear hout hll
          have hge := step_str_ge HIN.out HCD.out.symm hst
          have hgt := scAt_gt xs (i + 1) hge
          have hsl := scAt_le xs (i + 1)
          rw [HT.out.len] at hsl
          have HGE := hid hge
          have KE := hid (stringEnd_any tb toff n cap xs i _ HT.out.len (by omega) hcap HT.out.max hge HZ.out (HT.out.at HB6.out.kept))
          clear hge
          generalize hr : scAt xs (i + 1) = r at hgt hsl KE
          obtain ⟨j, rfl⟩ : ∃ j : Nat, r = j := ⟨r.toNat, by omega⟩
          have HR := hid hr
          clear hr HGE
          rw [step_str xs f dd out6 i j HIN.out HCD.out.symm HR.out] at hst
          obtain rfl := Option.some.inj hst
          clear hst
          go_wp2_with fail
          refine KE.out.mono ?_
          rintro e w' ⟨rfl, hw'⟩
          have hw'' := hw'.symm
          subst hw''
          clear hw'
          go_wp2_with (at_builtin; refine appT rfl (.tmp 54) (.tmp 58) rfl rfl HB6.out xs tb toff i j n (cap - i) HT.out.len rfl (by omega) (by omega) (HT.out.at HB6.out.kept) (by omega) ?_; intro v9 w9 hb9; have HB9 := hid hb9; clear hb9)
          go_roundw
          case rel => exact ⟨_, rfl, rfl, rfl, by go_num, by first | (dsimp only; omega) | omega, by first | (dsimp only; omega) | omega, hd1, hd2, HB9.out, HRX.out⟩
          case measure => simp [intOf]; omega
        | false =>
          have hge := step_str_ge HIN.out HCD.out.symm hst
          have hgt := scAt_gt xs (i + 1) hge
          have hsl := scAt_le xs (i + 1)
          rw [HT.out.len] at hsl
          have HGE := hid hge
          have KE := hid (stringEnd_any tb toff n cap xs i _ HT.out.len (by omega) hcap HT.out.max hge HZ.out (HT.out.at HB.out.kept))
          clear hge
          generalize hr : scAt xs (i + 1) = r at hgt hsl KE
          obtain ⟨j, rfl⟩ : ∃ j : Nat, r = j := ⟨r.toNat, by omega⟩
          have HR := hid hr
          clear hr HGE
          rw [step_str xs f dd out i j HIN.out HCD.out.symm HR.out] at hst
          obtain rfl := Option.some.inj hst
          clear hst
          go_wp2_with fail
          refine KE.out.mono ?_
          rintro e w' ⟨rfl, hw'⟩
          have hw'' := hw'.symm
          subst hw''
          clear hw'
          go_wp2_with (at_builtin; refine appT rfl (.tmp 54) (.tmp 58) rfl rfl HB.out xs tb toff i j n (cap - i) HT.out.len rfl (by omega) (by omega) (HT.out.at HB.out.kept) (by omega) ?_; intro v9 w9 hb9; have HB9 := hid hb9; clear hb9)
          go_roundw
          case rel => exact ⟨_, rfl, rfl, rfl, by go_num, by first | (dsimp only; omega) | omega, by first | (dsimp only; omega) | omega, hd1, hd2, HB9.out, HRX.out⟩
          case measure => simp [intOf]; omega
      by_cases h91 : c = 91
      · subst h91
        cases o with
        | true =>
          rw [step_opened xs f dd out i HIN.out (by rw [← HCD.out]; rfl) (by rw [← HCD.out]; decide) (by rw [← HCD.out]; decide)] at hst
          obtain rfl := Option.some.inj hst
          clear hst
          have hll := HRX.out.len
          simp only [List.length_append, length_line] at hll
          obtain ⟨s2, hst, hrun2⟩ := HRX.out.next HIN.out HFIN.out
          have HRX := hid hrun2
          clear hrun2
          have hol : (out ++ line dd).length ≤ app.length := by simp only [List.length_append, length_line]; exact hll
          go_wp2_with fail
          refine (newline_any dd HB.out (by omega) (by omega) (by omega)).mono ?_
          rintro e w6 ⟨v6, rfl, hb6⟩
          have HB6 := hid hb6
          clear hb6
          generalize hout : out ++ line dd = out6 at hst hol HB6
          clear hout hll
          by_cases hf : 0 < f
          · rw [step_open_flat xs f dd out6 i HIN.out (.inl HCD.out.symm) (.inl hf), ← HCD.out] at hst
            obtain rfl := Option.some.inj hst
            clear hst
            go_wp2_with (at_builtin; refine app1 rfl (.tmp 81) (.tmp 83) rfl rfl HB6.out rfl (by simp; omega) ?_; intro v9 w9 hb9; have HB9 := hid hb9; clear hb9)
            go_roundw
            case rel => exact ⟨_, rfl, rfl, by go_num, by go_num, by first | (dsimp only; omega) | omega, by first | (dsimp only; omega) | omega, by first | (dsimp only; omega) | omega, by first | (dsimp only; omega) | omega, HB9.out, HRX.out⟩
            case measure => simp [intOf]; omega
          · obtain rfl : f = 0 := by omega
            by_cases hd3 : dd < 3
            · rw [step_open_lined xs dd out6 i HIN.out (.inl HCD.out.symm) hd3, ← HCD.out] at hst
              obtain rfl := Option.some.inj hst
              clear hst
              go_wp2_with (at_builtin; refine app1 rfl (.tmp 92) (.tmp 94) rfl rfl HB6.out rfl (by simp; omega) ?_; intro v9 w9 hb9; have HB9 := hid hb9; clear hb9)
              go_roundw
              case rel => exact ⟨_, rfl, rfl, rfl, by go_num, by first | (dsimp only; omega) | omega, by first | (dsimp only; omega) | omega, by first | (dsimp only; omega) | omega, by first | (dsimp only; omega) | omega, HB9.out, HRX.out⟩
              case measure => simp [intOf]; omega
            · rw [step_open_flat xs 0 dd out6 i HIN.out (.inl HCD.out.symm) (.inr hd3), ← HCD.out] at hst
              obtain rfl := Option.some.inj hst
              clear hst
              go_wp2_with (at_builtin; refine app1 rfl (.tmp 92) (.tmp 94) rfl rfl HB6.out rfl (by simp; omega) ?_; intro v9 w9 hb9; have HB9 := hid hb9; clear hb9)
              go_roundw
              case rel => exact ⟨_, rfl, rfl, rfl, by go_num, by first | (dsimp only; omega) | omega, by first | (dsimp only; omega) | omega, by first | (dsimp only; omega) | omega, by first | (dsimp only; omega) | omega, HB9.out, HRX.out⟩
              case measure => simp [intOf]; omega
        | false =>
          by_cases hf : 0 < f
          · rw [step_open_flat xs f dd out i HIN.out (.inl HCD.out.symm) (.inl hf), ← HCD.out] at hst
            obtain rfl := Option.some.inj hst
            clear hst
            go_wp2_with (at_builtin; refine app1 rfl (.tmp 81) (.tmp 83) rfl rfl HB.out rfl (by simp; omega) ?_; intro v9 w9 hb9; have HB9 := hid hb9; clear hb9)
            go_roundw
            case rel => exact ⟨_, rfl, rfl, by go_num, by go_num, by first | (dsimp only; omega) | omega, by first | (dsimp only; omega) | omega, by first | (dsimp only; omega) | omega, by first | (dsimp only; omega) | omega, HB9.out, HRX.out⟩
            case measure => simp [intOf]; omega
          · obtain rfl : f = 0 := by omega
            by_cases hd3 : dd < 3
            · rw [step_open_lined xs dd out i HIN.out (.inl HCD.out.symm) hd3, ← HCD.out] at hst
              obtain rfl := Option.some.inj hst
              clear hst
              go_wp2_with (at_builtin; refine app1 rfl (.tmp 92) (.tmp 94) rfl rfl HB.out rfl (by simp; omega) ?_; intro v9 w9 hb9; have HB9 := hid hb9; clear hb9)
              go_roundw
              case rel => exact ⟨_, rfl, rfl, rfl, by go_num, by first | (dsimp only; omega) | omega, by first | (dsimp only; omega) | omega, by first | (dsimp only; omega) | omega, by first | (dsimp only; omega) | omega, HB9.out, HRX.out⟩
              case measure => simp [intOf]; omega
            · rw [step_open_flat xs 0 dd out i HIN.out (.inl HCD.out.symm) (.inr hd3), ← HCD.out] at hst
              obtain rfl := Option.some.inj hst
              clear hst
              go_wp2_with (at_builtin; refine app1 rfl (.tmp 92) (.tmp 94) rfl rfl HB.out rfl (by simp; omega) ?_; intro v9 w9 hb9; have HB9 := hid hb9; clear hb9)
              go_roundw
              case rel => exact ⟨_, rfl, rfl, rfl, by go_num, by first | (dsimp only; omega) | omega, by first | (dsimp only; omega) | omega, by first | (dsimp only; omega) | omega, by first | (dsimp only; omega) | omega, HB9.out, HRX.out⟩
              case measure => simp [intOf]; omega
      by_cases h123 : c = 123
      · subst h123
        cases o with
        | true =>
          rw [step_opened xs f dd out i HIN.out (by rw [← HCD.out]; rfl) (by rw [← HCD.out]; decide) (by rw [← HCD.out]; decide)] at hst
          obtain rfl := Option.some.inj hst
          clear hst
          have hll := HRX.out.len
          simp only [List.length_append, length_line] at hll
          obtain ⟨s2, hst, hrun2⟩ := HRX.out.next HIN.out HFIN.out
          have HRX := hid hrun2
          clear hrun2
          have hol : (out ++ line dd).length ≤ app.length := by simp only [List.length_append, length_line]; exact hll
          go_wp2_with fail
          refine (newline_any dd HB.out (by omega) (by omega) (by omega)).mono ?_
          rintro e w6 ⟨v6, rfl, hb6⟩
          have HB6 := hid hb6
          clear hb6
          generalize hout : out ++ line dd = out6 at hst hol HB6
          clear hout hll
          by_cases hf : 0 < f
          · rw [step_open_flat xs f dd out6 i HIN.out (.inr HCD.out.symm) (.inl hf), ← HCD.out] at hst
            obtain rfl := Option.some.inj hst
            clear hst
            go_wp2_with (at_builtin; refine app1 rfl (.tmp 81) (.tmp 83) rfl rfl HB6.out rfl (by simp; omega) ?_; intro v9 w9 hb9; have HB9 := hid hb9; clear hb9)
            go_roundw
            case rel => exact ⟨_, rfl, rfl, by go_num, by go_num, by first | (dsimp only; omega) | omega, by first | (dsimp only; omega) | omega, by first | (dsimp only; omega) | omega, by first | (dsimp only; omega) | omega, HB9.out, HRX.out⟩
            case measure => simp [intOf]; omega
          · obtain rfl : f = 0 := by omega
            by_cases hd3 : dd < 3
            · rw [step_open_lined xs dd out6 i HIN.out (.inr HCD.out.symm) hd3, ← HCD.out] at hst
              obtain rfl := Option.some.inj hst
              clear hst
              go_wp2_with (at_builtin; refine app1 rfl (.tmp 92) (.tmp 94) rfl rfl HB6.out rfl (by simp; omega) ?_; intro v9 w9 hb9; have HB9 := hid hb9; clear hb9)
              go_roundw
              case rel => exact ⟨_, rfl, rfl, rfl, by go_num, by first | (dsimp only; omega) | omega, by first | (dsimp only; omega) | omega, by first | (dsimp only; omega) | omega, by first | (dsimp only; omega) | omega, HB9.out, HRX.out⟩
              case measure => simp [intOf]; omega
            · rw [step_open_flat xs 0 dd out6 i HIN.out (.inr HCD.out.symm) (.inr hd3), ← HCD.out] at hst
              obtain rfl := Option.some.inj hst
              clear hst
              go_wp2_with (at_builtin; refine app1 rfl (.tmp 92) (.tmp 94) rfl rfl HB6.out rfl (by simp; omega) ?_; intro v9 w9 hb9; have HB9 := hid hb9; clear hb9)
              go_roundw
              case rel => exact ⟨_, rfl, rfl, rfl, by go_num, by first | (dsimp only; omega) | omega, by first | (dsimp only; omega) | omega, by first | (dsimp only; omega) | omega, by first | (dsimp only; omega) | omega, HB9.out, HRX.out⟩
              case measure => simp [intOf]; omega
        | false =>
          by_cases hf : 0 < f
          · rw [step_open_flat xs f dd out i HIN.out (.inr HCD.out.symm) (.inl hf), ← HCD.out] at hst
            obtain rfl := Option.some.inj hst
            clear hst
            go_wp2_with (at_builtin; refine app1 rfl (.tmp 81) (.tmp 83) rfl rfl HB.out rfl (by simp; omega) ?_; intro v9 w9 hb9; have HB9 := hid hb9; clear hb9)
            go_roundw
            case rel => exact ⟨_, rfl, rfl, by go_num, by go_num, by first | (dsimp only; omega) | omega, by first | (dsimp only; omega) | omega, by first | (dsimp only; omega) | omega, by first | (dsimp only; omega) | omega, HB9.out, HRX.out⟩
            case measure => simp [intOf]; omega
          · obtain rfl : f = 0 := by omega
            by_cases hd3 : dd < 3
            · rw [step_open_lined xs dd out i HIN.out (.inr HCD.out.symm) hd3, ← HCD.out] at hst
              obtain rfl := Option.some.inj hst
              clear hst
              go_wp2_with (at_builtin; refine app1 rfl (.tmp 92) (.tmp 94) rfl rfl HB.out rfl (by simp; omega) ?_; intro v9 w9 hb9; have HB9 := hid hb9; clear hb9)
              go_roundw
              case rel => exact ⟨_, rfl, rfl, rfl, by go_num, by first | (dsimp only; omega) | omega, by first | (dsimp only; omega) | omega, by first | (dsimp only; omega) | omega, by first | (dsimp only; omega) | omega, HB9.out, HRX.out⟩
              case measure => simp [intOf]; omega
            · rw [step_open_flat xs 0 dd out i HIN.out (.inr HCD.out.symm) (.inr hd3), ← HCD.out] at hst
              obtain rfl := Option.some.inj hst
              clear hst
              go_wp2_with (at_builtin; refine app1 rfl (.tmp 92) (.tmp 94) rfl rfl HB.out rfl (by simp; omega) ?_; intro v9 w9 hb9; have HB9 := hid hb9; clear hb9)
              go_roundw
              case rel => exact ⟨_, rfl, rfl, rfl, by go_num, by first | (dsimp only; omega) | omega, by first | (dsimp only; omega) | omega, by first | (dsimp only; omega) | omega, by first | (dsimp only; omega) | omega, HB9.out, HRX.out⟩
              case measure => simp [intOf]; omega
      by_cases h93 : c = 93
      · subst h93
        cases o with
        | true =>
          have hdm := step_close_d HIN.out (.inl HCD.out.symm) (.inl rfl) hst
          rw [step_close_opened xs f dd out i HIN.out (.inl HCD.out.symm) hdm, ← HCD.out] at hst
          obtain rfl := Option.some.inj hst
          clear hst
          go_wp2_with (at_builtin; refine app1 rfl (.tmp 37) (.tmp 39) rfl rfl HB.out rfl (by simp; omega) ?_; intro v9 w9 hb9; have HB9 := hid hb9; clear hb9)
          go_roundw
          case rel => exact ⟨_, rfl, rfl, rfl, by go_num, by first | (dsimp only; omega) | omega, by first | (dsimp only; omega) | omega, by first | (dsimp only; omega) | omega, by first | (dsimp only; omega) | omega, HB9.out, HRX.out⟩
          case measure => simp [intOf]; omega
        | false =>
          by_cases hf : 0 < f
          · obtain ⟨f', rfl⟩ : ∃ f', f = f' + 1 := ⟨f - 1, by omega⟩
            rw [step_close_flat xs f' dd out i HIN.out (.inl HCD.out.symm), ← HCD.out] at hst
            obtain rfl := Option.some.inj hst
            clear hst
            go_wp2_with (at_builtin; refine app1 rfl (.tmp 81) (.tmp 83) rfl rfl HB.out rfl (by simp; omega) ?_; intro v9 w9 hb9; have HB9 := hid hb9; clear hb9)
            go_roundw
            case rel => exact ⟨_, rfl, rfl, by go_num, by go_num, by first | (dsimp only; omega) | omega, by first | (dsimp only; omega) | omega, by first | (dsimp only; omega) | omega, by first | (dsimp only; omega) | omega, HB9.out, HRX.out⟩
            case measure => simp [intOf]; omega
          · obtain rfl : f = 0 := by omega
            have hdm := step_close_d HIN.out (.inl HCD.out.symm) (.inr rfl) hst
            rw [step_close_lined xs dd out i HIN.out (.inl HCD.out.symm) hdm, ← HCD.out] at hst
            obtain rfl := Option.some.inj hst
            clear hst
            have hll := HRX.out.len
            simp only [List.length_append, length_line] at hll
            go_wp2_with fail
            refine (newline_any (dd - 1) HB.out (by omega) (by omega) (by omega)).mono ?_
            rintro e w7 ⟨v7, rfl, hb7⟩
            have HB7 := hid hb7
            clear hb7
            go_wp2_with (at_builtin; refine app1 rfl (.tmp 112) (.tmp 114) rfl rfl HB7.out rfl (by simp [length_line]; omega) ?_; intro v9 w9 hb9; have HB9 := hid hb9; clear hb9)
            go_roundw
            case rel => exact ⟨_, rfl, rfl, rfl, by go_num, by first | (dsimp only; omega) | omega, by first | (dsimp only; omega) | omega, by first | (dsimp only; omega) | omega, by first | (dsimp only; omega) | omega, HB9.out, HRX.out⟩
            case measure => simp [intOf]; omega
      by_cases h125 : c = 125
      · subst h125
        cases o with
        | true =>
          have hdm := step_close_d HIN.out (.inr HCD.out.symm) (.inl rfl) hst
          rw [step_close_opened xs f dd out i HIN.out (.inr HCD.out.symm) hdm, ← HCD.out] at hst
          obtain rfl := Option.some.inj hst
          clear hst
          go_wp2_with (at_builtin; refine app1 rfl (.tmp 37) (.tmp 39) rfl rfl HB.out rfl (by simp; omega) ?_; intro v9 w9 hb9; have HB9 := hid hb9; clear hb9)
          go_roundw
          case rel => exact ⟨_, rfl, rfl, rfl, by go_num, by first | (dsimp only; omega) | omega, by first | (dsimp only; omega) | omega, by first | (dsimp only; omega) | omega, by first | (dsimp only; omega) | omega, HB9.out, HRX.out⟩
          case measure => simp [intOf]; omega
        | false =>
          by_cases hf : 0 < f
          · obtain ⟨f', rfl⟩ : ∃ f', f = f' + 1 := ⟨f - 1, by omega⟩
            rw [step_close_flat xs f' dd out i HIN.out (.inr HCD.out.symm), ← HCD.out] at hst
            obtain rfl := Option.some.inj hst
            clear hst
            go_wp2_with (at_builtin; refine app1 rfl (.tmp 81) (.tmp 83) rfl rfl HB.out rfl (by simp; omega) ?_; intro v9 w9 hb9; have HB9 := hid hb9; clear hb9)
            go_roundw
            case rel => exact ⟨_, rfl, rfl, by go_num, by go_num, by first | (dsimp only; omega) | omega, by first | (dsimp only; omega) | omega, by first | (dsimp only; omega) | omega, by first | (dsimp only; omega) | omega, HB9.out, HRX.out⟩
            case measure => simp [intOf]; omega
          · obtain rfl : f = 0 := by omega
            have hdm := step_close_d HIN.out (.inr HCD.out.symm) (.inr rfl) hst
            rw [step_close_lined xs dd out i HIN.out (.inr HCD.out.symm) hdm, ← HCD.out] at hst
            obtain rfl := Option.some.inj hst
            clear hst
            have hll := HRX.out.len
            simp only [List.length_append, length_line] at hll
            go_wp2_with fail
            refine (newline_any (dd - 1) HB.out (by omega) (by omega) (by omega)).mono ?_
            rintro e w7 ⟨v7, rfl, hb7⟩
            have HB7 := hid hb7
            clear hb7
            go_wp2_with (at_builtin; refine app1 rfl (.tmp 112) (.tmp 114) rfl rfl HB7.out rfl (by simp [length_line]; omega) ?_; intro v9 w9 hb9; have HB9 := hid hb9; clear hb9)
            go_roundw
            case rel => exact ⟨_, rfl, rfl, rfl, by go_num, by first | (dsimp only; omega) | omega, by first | (dsimp only; omega) | omega, by first | (dsimp only; omega) | omega, by first | (dsimp only; omega) | omega, HB9.out, HRX.out⟩
            case measure => simp [intOf]; omega
      by_cases h44 : c = 44
      · subst h44
        cases o with
        | true =>
          rw [step_opened xs f dd out i HIN.out (by rw [← HCD.out]; rfl) (by rw [← HCD.out]; decide) (by rw [← HCD.out]; decide)] at hst
          obtain rfl := Option.some.inj hst
          clear hst
          have hll := HRX.out.len
          simp only [List.length_append, length_line] at hll
          obtain ⟨s2, hst, hrun2⟩ := HRX.out.next HIN.out HFIN.out
          have HRX := hid hrun2
          clear hrun2
          have hol : (out ++ line dd).length ≤ app.length := by simp only [List.length_append, length_line]; exact hll
          go_wp2_with fail
          refine (newline_any dd HB.out (by omega) (by omega) (by omega)).mono ?_
          rintro e w6 ⟨v6, rfl, hb6⟩
          have HB6 := hid hb6
          clear hb6
          generalize hout : out ++ line dd = out6 at hst hol HB6
          clear hout hll
          by_cases hf : 0 < f
          · rw [step_comma xs false f dd out6 i HIN.out HCD.out.symm (by simp; omega)] at hst
            simp only [lineIf, Bool.false_eq_true, if_false, List.append_nil] at hst
            obtain rfl := Option.some.inj hst
            clear hst
            go_wp2_with (at_builtin; refine app1 rfl (.tmp 81) (.tmp 83) rfl rfl HB6.out rfl (by simp; omega) ?_; intro v9 w9 hb9; have HB9 := hid hb9; clear hb9)
            go_roundw
            case rel => exact ⟨_, rfl, rfl, rfl, by go_num, by first | (dsimp only; omega) | omega, by first | (dsimp only; omega) | omega, by first | (dsimp only; omega) | omega, by first | (dsimp only; omega) | omega, HB9.out, HRX.out⟩
            case measure => simp [intOf]; omega
          · obtain rfl : f = 0 := by omega
            rw [step_comma xs true 0 dd out6 i HIN.out HCD.out.symm (by simp)] at hst
            simp only [lineIf, if_true] at hst
            obtain rfl := Option.some.inj hst
            clear hst
            have hll := HRX.out.len
            simp only [List.length_append, length_line] at hll
            go_wp2_with (at_builtin; refine app1 rfl (.tmp 119) (.tmp 120) rfl rfl HB6.out rfl (by simp; omega) ?_; intro v7 w7 hb9; have HB7 := hid hb9; clear hb9)
            refine (newline_any dd HB7.out (by simp at hll ⊢; omega) (by omega) (by omega)).mono ?_
            rintro e w9 ⟨v9, rfl, hb9⟩
            have HB9 := hid hb9
            clear hb9
            go_wp2_with fail
            go_roundw
            case rel => exact ⟨_, rfl, rfl, rfl, by go_num, by first | (dsimp only; omega) | omega, by first | (dsimp only; omega) | omega, by first | (dsimp only; omega) | omega, by first | (dsimp only; omega) | omega, HB9.out, HRX.out⟩
            case measure => simp [intOf]; omega
        | false =>
          by_cases hf : 0 < f
          · rw [step_comma xs false f dd out i HIN.out HCD.out.symm (by simp; omega)] at hst
            simp only [lineIf, Bool.false_eq_true, if_false, List.append_nil] at hst
            obtain rfl := Option.some.inj hst
            clear hst
            go_wp2_with (at_builtin; refine app1 rfl (.tmp 81) (.tmp 83) rfl rfl HB.out rfl (by simp; omega) ?_; intro v9 w9 hb9; have HB9 := hid hb9; clear hb9)
            go_roundw
            case rel => exact ⟨_, rfl, rfl, rfl, by go_num, by first | (dsimp only; omega) | omega, by first | (dsimp only; omega) | omega, by first | (dsimp only; omega) | omega, by first | (dsimp only; omega) | omega, HB9.out, HRX.out⟩
            case measure => simp [intOf]; omega
          · obtain rfl : f = 0 := by omega
            rw [step_comma xs true 0 dd out i HIN.out HCD.out.symm (by simp)] at hst
            simp only [lineIf, if_true] at hst
            obtain rfl := Option.some.inj hst
            clear hst
            have hll := HRX.out.len
            simp only [List.length_append, length_line] at hll
            go_wp2_with (at_builtin; refine app1 rfl (.tmp 119) (.tmp 120) rfl rfl HB.out rfl (by simp; omega) ?_; intro v7 w7 hb9; have HB7 := hid hb9; clear hb9)
            refine (newline_any dd HB7.out (by simp at hll ⊢; omega) (by omega) (by omega)).mono ?_
            rintro e w9 ⟨v9, rfl, hb9⟩
            have HB9 := hid hb9
            clear hb9
            go_wp2_with fail
            go_roundw
            case rel => exact ⟨_, rfl, rfl, rfl, by go_num, by first | (dsimp only; omega) | omega, by first | (dsimp only; omega) | omega, by first | (dsimp only; omega) | omega, by first | (dsimp only; omega) | omega, HB9.out, HRX.out⟩
            case measure => simp [intOf]; omega
      by_cases h58 : c = 58
      · subst h58
        cases o with
        | true =>
          rw [step_opened xs f dd out i HIN.out (by rw [← HCD.out]; rfl) (by rw [← HCD.out]; decide) (by rw [← HCD.out]; decide)] at hst
          obtain rfl := Option.some.inj hst
          clear hst
          have hll := HRX.out.len
          simp only [List.length_append, length_line] at hll
          obtain ⟨s2, hst, hrun2⟩ := HRX.out.next HIN.out HFIN.out
          have HRX := hid hrun2
          clear hrun2
          have hol : (out ++ line dd).length ≤ app.length := by simp only [List.length_append, length_line]; exact hll
          go_wp2_with fail
          refine (newline_any dd HB.out (by omega) (by omega) (by omega)).mono ?_
          rintro e w6 ⟨v6, rfl, hb6⟩
          have HB6 := hid hb6
          clear hb6
          generalize hout : out ++ line dd = out6 at hst hol HB6
          clear hout hll
          by_cases hf : 0 < f
          · rw [step_colon xs false f dd out6 i HIN.out HCD.out.symm (by simp; omega)] at hst
            simp only [spIf, Bool.false_eq_true, if_false, List.append_nil] at hst
            obtain rfl := Option.some.inj hst
            clear hst
            go_wp2_with (at_builtin; refine app1 rfl (.tmp 81) (.tmp 83) rfl rfl HB6.out rfl (by simp; omega) ?_; intro v9 w9 hb9; have HB9 := hid hb9; clear hb9)
            go_roundw
            case rel => exact ⟨_, rfl, rfl, rfl, by go_num, by first | (dsimp only; omega) | omega, by first | (dsimp only; omega) | omega, by first | (dsimp only; omega) | omega, by first | (dsimp only; omega) | omega, HB9.out, HRX.out⟩
            case measure => simp [intOf]; omega
          · obtain rfl : f = 0 := by omega
            rw [step_colon xs true 0 dd out6 i HIN.out HCD.out.symm (by simp)] at hst
            simp only [spIf, if_true, List.append_assoc, List.cons_append, List.nil_append] at hst
            obtain rfl := Option.some.inj hst
            clear hst
            go_wp2_with (at_builtin; refine app2 rfl (.tmp 128) (.tmp 129) rfl rfl HB6.out rfl (by simp; omega) ?_; intro v9 w9 hb9; have HB9 := hid hb9; clear hb9)
            go_roundw
            case rel => exact ⟨_, rfl, rfl, rfl, by go_num, by first | (dsimp only; omega) | omega, by first | (dsimp only; omega) | omega, by first | (dsimp only; omega) | omega, by first | (dsimp only; omega) | omega, HB9.out, HRX.out⟩
            case measure => simp [intOf]; omega
        | false =>
          by_cases hf : 0 < f
          · rw [step_colon xs false f dd out i HIN.out HCD.out.symm (by simp; omega)] at hst
            simp only [spIf, Bool.false_eq_true, if_false, List.append_nil] at hst
            obtain rfl := Option.some.inj hst
            clear hst
            go_wp2_with (at_builtin; refine app1 rfl (.tmp 81) (.tmp 83) rfl rfl HB.out rfl (by simp; omega) ?_; intro v9 w9 hb9; have HB9 := hid hb9; clear hb9)
            go_roundw
            case rel => exact ⟨_, rfl, rfl, rfl, by go_num, by first | (dsimp only; omega) | omega, by first | (dsimp only; omega) | omega, by first | (dsimp only; omega) | omega, by first | (dsimp only; omega) | omega, HB9.out, HRX.out⟩
            case measure => simp [intOf]; omega
          · obtain rfl : f = 0 := by omega
            rw [step_colon xs true 0 dd out i HIN.out HCD.out.symm (by simp)] at hst
            simp only [spIf, if_true, List.append_assoc, List.cons_append, List.nil_append] at hst
            obtain rfl := Option.some.inj hst
            clear hst
            go_wp2_with (at_builtin; refine app2 rfl (.tmp 128) (.tmp 129) rfl rfl HB.out rfl (by simp; omega) ?_; intro v9 w9 hb9; have HB9 := hid hb9; clear hb9)
            go_roundw
            case rel => exact ⟨_, rfl, rfl, rfl, by go_num, by first | (dsimp only; omega) | omega, by first | (dsimp only; omega) | omega, by first | (dsimp only; omega) | omega, by first | (dsimp only; omega) | omega, HB9.out, HRX.out⟩
            case measure => simp [intOf]; omega
      obtain ⟨hdel, hnw⟩ := other_del ⟨h32, h9, h10, h13, h34, h91, h123, h93, h125, h44, h58⟩
      have HDEL := hid hdel
      have HNW := hid hnw
      have HN93 := hid h93
      have HN125 := hid h125
      have e32 : (c == 32) = false := by simpa using h32
      have e9 : (c == 9) = false := by simpa using h9
      have e10 : (c == 10) = false := by simpa using h10
      have e13 : (c == 13) = false := by simpa using h13
      have e34 : (c == 34) = false := by simpa using h34
      have e91 : (c == 91) = false := by simpa using h91
      have e123 : (c == 123) = false := by simpa using h123
      have e93 : (c == 93) = false := by simpa using h93
      have e125 : (c == 125) = false := by simpa using h125
      have e44 : (c == 44) = false := by simpa using h44
      have e58 : (c == 58) = false := by simpa using h58
      clear hdel hnw h32 h9 h10 h13 h34 h91 h123 h93 h125 h44 h58
      cases o with
      | true =>
        rw [step_opened xs f dd out i HIN.out (by rw [← HCD.out]; exact HNW.out) (by rw [← HCD.out]; exact HN93.out) (by rw [← HCD.out]; exact HN125.out)] at hst
        obtain rfl := Option.some.inj hst
        clear hst
        have hll := HRX.out.len
        simp only [List.length_append, length_line] at hll
        obtain ⟨s2, hst, hrun2⟩ := HRX.out.next HIN.out HFIN.out
        have HRX := hid hrun2
        clear hrun2
        have hol : (out ++ line dd).length ≤ app.length := by simp only [List.length_append, length_line]; exact hll
        go_wp2_with fail
        refine (newline_any dd HB.out (by omega) (by omega) (by omega)).mono ?_
        rintro e w6 ⟨v6, rfl, hb6⟩
        have HB6 := hid hb6
        clear hb6
        generalize hout : out ++ line dd = out6 at hst hol HB6
        clear hout hll
        by_cases hf : 0 < f
        · rw [step_lit xs f dd out6 i HIN.out (by rw [← HCD.out]; exact HDEL.out), ← HCD.out] at hst
          obtain rfl := Option.some.inj hst
          clear hst
          go_wp2_with (at_builtin; refine app1 rfl (.tmp 81) (.tmp 83) rfl rfl HB6.out rfl (by simp; omega) ?_; intro v9 w9 hb9; have HB9 := hid hb9; clear hb9)
          go_roundw
          case rel => exact ⟨_, rfl, rfl, rfl, by go_num, by first | (dsimp only; omega) | omega, by first | (dsimp only; omega) | omega, by first | (dsimp only; omega) | omega, by first | (dsimp only; omega) | omega, HB9.out, HRX.out⟩
          case measure => simp [intOf]; omega
        · obtain rfl : f = 0 := by omega
          rw [step_lit xs 0 dd out6 i HIN.out (by rw [← HCD.out]; exact HDEL.out), ← HCD.out] at hst
          obtain rfl := Option.some.inj hst
          clear hst
          go_wp2_with (at_builtin; refine app1 rfl (.tmp 44) (.tmp 46) rfl rfl HB6.out rfl (by simp; omega) ?_; intro v9 w9 hb9; have HB9 := hid hb9; clear hb9)
          go_roundw
          case rel => exact ⟨_, rfl, rfl, rfl, by go_num, by first | (dsimp only; omega) | omega, by first | (dsimp only; omega) | omega, by first | (dsimp only; omega) | omega, by first | (dsimp only; omega) | omega, HB9.out, HRX.out⟩
          case measure => simp [intOf]; omega
      | false =>
        by_cases hf : 0 < f
        · rw [step_lit xs f dd out i HIN.out (by rw [← HCD.out]; exact HDEL.out), ← HCD.out] at hst
          obtain rfl := Option.some.inj hst
          clear hst
          go_wp2_with (at_builtin; refine app1 rfl (.tmp 81) (.tmp 83) rfl rfl HB.out rfl (by simp; omega) ?_; intro v9 w9 hb9; have HB9 := hid hb9; clear hb9)
          go_roundw
          case rel => exact ⟨_, rfl, rfl, rfl, by go_num, by first | (dsimp only; omega) | omega, by first | (dsimp only; omega) | omega, by first | (dsimp only; omega) | omega, by first | (dsimp only; omega) | omega, HB9.out, HRX.out⟩
          case measure => simp [intOf]; omega
        · obtain rfl : f = 0 := by omega
          rw [step_lit xs 0 dd out i HIN.out (by rw [← HCD.out]; exact HDEL.out), ← HCD.out] at hst
          obtain rfl := Option.some.inj hst
          clear hst
          go_wp2_with (at_builtin; refine app1 rfl (.tmp 44) (.tmp 46) rfl rfl HB.out rfl (by simp; omega) ?_; intro v9 w9 hb9; have HB9 := hid hb9; clear hb9)
          go_roundw
          case rel => exact ⟨_, rfl, rfl, rfl, by go_num, by first | (dsimp only; omega) | omega, by first | (dsimp only; omega) | omega, by first | (dsimp only; omega) | omega, by first | (dsimp only; omega) | omega, HB9.out, HRX.out⟩
          case measure => simp [intOf]; omega
    · have hstop := HRR.out.stop (by show xs.length ≤ i; rw [HT.out.len]; omega)
      have HST := hid hstop
      clear hstop
      go_wp2_with fail
      go_ret
      refine ⟨_, rfl, ?_⟩
      have : out = app := congrArg St.out HST.out
      rw [← this]
      exact HB.out

end Go.Proofs.Qxb6601636a.J
