/-
  THE WALK of jf1RenderContainer: one kind of bracket, one way of laying it out.
-/
import Derived.Test.Qxb6601636aCont
namespace Go.Proofs.Qxb6601636a.J
open Go.RowKit
set_option linter.unusedVariables false

set_option maxHeartbeats 4000000 in
set_option maxRecDepth 100000 in
theorem obj_lined {W : World} {ao : Option Addr} {tb toff n cap : Nat} {xs : List Int} (T : Txt W tb toff n cap xs) (M : Nat) (hR : RendOK W ao tb toff n cap xs M)
    (p : Nat) (d : Int) (ks : List Int) (v : Value) (w : World) (hp : p < n) (hM : n - p ≤ M + 1) (hc : xs.getD p 0 = 123) (hd1 : -9223372036854775808 ≤ d) (hd2 : d ≤ 9223372036854775807) (hd3 : d < 3) (hb : Buf W ao 0 [] w v ks) (hks : ks.length ≤ 8 * p) :
    Calls Try.prog 28 #[.slice (some ⟨tb, toff, none⟩) n cap, .int .i64 p, .int .i64 d, .bool false, v] w (Val W ao xs d false ks p) := by
  have hlin : lin false d = true := by simp [lin, hd3]
  have hlv : lv false d = (d + 1) := by simp [lv, hlin]
  have HLI : Hid (lineIf (lin false d) (lv false d) = line (d + 1)) := by show _ = _; simp [lineIf, hlin, hlv]
  have HLI' : Hid (lineIf (lin false d) d = line d) := by show _ = _; simp [lineIf, hlin]
  have HSP : Hid (spIf (lin false d) = [32]) := by show _ = _; simp [spIf, hlin]
  have HT := hid T
  have HB := hid hb
  have HR := hid hR
  have HLIN := hid hlin
  have HLV := hid hlv
  have HC := hid hc
  have hcap := T.le
  have hmax := T.max
  unfold maxLen at hmax
  have hsm := T.small
  have hcell := T.at hb.kept p hp
  rw [hc] at hcell
  have HP : Hid (p < xs.length) := by show _ < _; rw [T.len]; exact hp
  clear hb hR hlin hlv hc T
  go_enter Try.func28, Try.ntmps28
  go_wp2_with (at_builtin; refine app1 rfl (.tmp 35) (.tmp 37) rfl rfl HB.out rfl (by omega) ?_; intro v1 w1 hb1; have HB1 := hid hb1; clear hb1)
  clear hcell HB
  have K1 := skip_any tb toff n cap xs (p + 1) w1 HT.out.len (by omega) (by omega) (HT.out.at HB1.out.kept)
  rw [cast1] at K1
  refine K1.mono ?_
  rintro e w' ⟨rfl, hw'⟩
  have hw'' := hw'.symm
  subst hw''
  clear hw' K1
  have hq1 := skip_le xs (p + 1) (by rw [HT.out.len]; omega)
  rw [HT.out.len] at hq1
  have hq2 := le_skip xs (p + 1)
  have hpre := pre_open xs p d false HP.out (.inr HC.out)
  rw [HC.out] at hpre
  have HPRE := hid hpre
  clear hpre
  generalize hq : skip xs (p + 1) = q at hq1 hq2 HPRE
  have HQ := hid hq.symm
  clear hq
  by_cases hemp : q < n ∧ xs.getD q 0 = 125
  · obtain ⟨hqn, hqc⟩ := hemp
    have hcq := HT.out.at HB1.out.kept q hqn
    rw [hqc] at hcq
    have HQC := hid hqc
    clear hqc
    go_wp2_with (at_builtin; refine app1 rfl (.tmp 57) (.tmp 59) rfl rfl HB1.out rfl (by simp; omega) ?_; intro v2 w2 hb2; have HB2 := hid hb2; clear hb2)
    go_ret3
    have := val_empty (d := d) (fl := false) HB2.out HP.out HC.out (.inr rfl) hd1 HQ.out (by rw [HT.out.len]; exact hqn) HQC.out (.inr rfl) hks
    rw [cast1] at this
    exact this
  · have hor : (∃ c0, w1.cell? ⟨tb, toff + q, none⟩ = some (.int .u8 c0) ∧ (c0 == 125) = false ∧ q < n) ∨ ¬ q < n := by
      by_cases hqn : q < n
      · exact .inl ⟨_, HT.out.at HB1.out.kept q hqn, by simp; intro h; exact hemp ⟨hqn, by simpa [List.getD] using h⟩, hqn⟩
      · exact .inr hqn
    clear hemp
    rcases hor with ⟨c0, hcq, ec0, hqn⟩ | hqn
    all_goals
      go_wp2_with fail
      go_loopw [1, 4] (fun x v wr => ∃ (m : Nat) (A : List Int), p < m ∧ m ≤ n ∧ x = .int .i64 m ∧ Buf W ao 0 [] wr v (ks ++ A) ∧ (ks ++ A).length + 7 ≤ 8 * m ∧ Pre xs p d false (A ++ lineIf (lin false d) (lv false d)) m) (fun x _ _ => n - (intOf x).toNat)
      case atStart => exact ⟨q, [123], by omega, hq1, rfl, HB1.out, by simp; omega, HPRE.out⟩
      case round =>
        obtain ⟨m, A, hm1, hm2, rfl, hbm, hlen, hpre⟩ := hrel
        have HBM := hid hbm
        have HPR := hid hpre
        clear hbm hpre
        rw [List.length_append] at hlen
        go_wp2_with fail
        have hll := length_line (d + 1)
        refine (line_any (d + 1) HBM.out (by simp; omega) (by omega) (by omega)).mono ?_
        rintro e wl ⟨vl, rfl, hbl⟩
        have hbl' : Buf W ao 0 [] wl vl (ks ++ (A ++ line (d + 1))) := by simpa using hbl
        have HBL := hid hbl'
        have hprl := HPR.out
        rw [HLI.out] at hprl
        have HPL := hid hprl
        clear hbl hbl' hprl
        have hla : (A ++ line (d + 1)).length = A.length + (line (d + 1)).length := List.length_append
        generalize hA1 : A ++ line (d + 1) = A1 at HBL HPL hla
        clear hA1
        have hlen1 : ks.length + A1.length ≤ 8 * m := by omega
        clear hla hll hlen
        go_wp2_with fail
        have hk0 := HBL.out.kept
        have HK0 := hid hk0
        clear hk0
        refine (skip_any tb toff n cap xs m _ HT.out.len (by omega) hm2 (HT.out.at HK0.out)).mono ?_
        rintro e wx ⟨rfl, hwx⟩
        have hwx' := hwx.symm
        subst hwx'
        clear hwx
        have hs1 := skip_le xs m (by rw [HT.out.len]; omega)
        rw [HT.out.len] at hs1
        have hs2 := le_skip xs m
        generalize hs : skip xs m = s at hs1 hs2
        have HS := hid hs.symm
        clear hs
        by_cases hsn : s < n
        case neg =>
          go_wp2_with fail
          go_ret3
          exact val_no _ HK0.out
        have hcs := HT.out.at HK0.out s hsn
        have HSN : Hid (s < xs.length) := by show _ < _; rw [HT.out.len]; exact hsn
        by_cases hs34 : xs.getD s 0 = 34
        case neg =>
          obtain ⟨c1, hc1⟩ : ∃ c1, c1 = xs.getD s 0 := ⟨_, rfl⟩
          rw [← hc1] at hcs hs34
          have e1 : (c1 != 34) = true := by simpa using hs34
          clear hc1 hs34
          go_wp2_with fail
          go_ret3
          exact val_no _ HK0.out
        rw [hs34] at hcs
        have HS34 := hid hs34
        clear hs34
        go_wp2_with fail
        refine (strClose_any tb toff n cap xs s _ HT.out.len (by omega) (by omega) (HT.out.at HK0.out)).mono ?_
        rintro e wy ⟨rfl, hwy⟩
        have hwy' := hwy.symm
        subst hwy'
        clear hwy
        have hsl := scAt_le xs (s + 1)
        rw [HT.out.len] at hsl
        have hgt := scAt_gt xs (s + 1)
        generalize hr0 : scAt xs (s + 1) = r0 at hsl hgt
        have HR0 := hid hr0
        clear hr0
        by_cases hneg : r0 < 0
        case pos =>
          clear hgt
          go_wp2_with fail
          go_ret3
          exact val_no _ HK0.out
        obtain ⟨jk, rfl⟩ : ∃ jk : Nat, r0 = jk := ⟨r0.toNat, by omega⟩
        have hjk : s + 1 < jk := by have := hgt (by omega); omega
        clear hgt hneg
        have hlp := length_piece xs s jk (by rw [HT.out.len]; omega) (by omega)
        go_wp2_with (at_builtin; refine appT rfl (.tmp 90) (.tmp 94) rfl rfl HBL.out xs tb toff s jk n (cap - s) HT.out.len rfl (by omega) (by omega) (HT.out.at HK0.out) (by simp; omega) ?_; intro vk wk hbk; have HBK := hid hbk; clear hbk)
        clear hcs
        refine (skip_any tb toff n cap xs jk wk HT.out.len (by omega) (by omega) (HT.out.at HBK.out.kept)).mono ?_
        rintro e wz ⟨rfl, hwz⟩
        have hwz' := hwz.symm
        subst hwz'
        clear hwz
        have ht1 := skip_le xs jk (by rw [HT.out.len]; omega)
        rw [HT.out.len] at ht1
        have ht2 := le_skip xs jk
        generalize hqq : skip xs jk = q2 at ht1 ht2
        have HQ2 := hid hqq.symm
        clear hqq
        by_cases hq2n : q2 < n
        case neg =>
          go_wp2_with fail
          go_ret3
          exact val_no _ HBK.out.kept
        have hcq2 := HT.out.at HBK.out.kept q2 hq2n
        by_cases hq58 : xs.getD q2 0 = 58
        case neg =>
          obtain ⟨c1, hc1⟩ : ∃ c1, c1 = xs.getD q2 0 := ⟨_, rfl⟩
          rw [← hc1] at hcq2 hq58
          have e1 : (c1 != 58) = true := by simpa using hq58
          clear hc1 hq58
          go_wp2_with fail
          go_ret3
          exact val_no _ HBK.out.kept
        rw [hq58] at hcq2
        have HPK := hid (pre_key xs p d false A1 m s jk q2 HPL.out HS.out HSN.out HS34.out HR0.out HQ2.out (by rw [HT.out.len]; exact hq2n) hq58)
        clear hq58
        go_wp2_with (first
          | (at_builtin; refine app1 rfl (.tmp 112) (.tmp 113) rfl rfl HBK.out rfl (by simp; omega) ?_; intro vc wc hbc; have HBC := hid hbc; clear hbc)
          | (at_builtin; refine app1 rfl (.tmp 116) (.tmp 117) rfl rfl HBC.out rfl (by simp; omega) ?_; intro ve we hbe; have HBE := hid hbe; clear hbe))
        clear hcq2
        have hbv : Buf W ao 0 [] we ve (ks ++ (A1 ++ piece xs s jk ++ [58] ++ [32])) := by simpa using HBE.out
        have hprv := HPK.out
        rw [HSP.out] at hprv
        have HBV := hid hbv
        have HPV := hid hprv
        clear hbv hprv
        have hlv2 : (A1 ++ piece xs s jk ++ [58] ++ [32]).length ≤ A1.length + (jk - s) + 2 := by simp only [List.length_append, List.length_cons, List.length_nil, hlp]; omega
        generalize hA2 : A1 ++ piece xs s jk ++ [58] ++ [32] = A2 at HBV HPV hlv2
        clear hA2
        have hlen2 : ks.length + A2.length ≤ 8 * (q2 + 1) := by omega
        clear hlv2 hlp
        have hi2 : p < q2 + 1 := by omega
        have hmi : m < q2 + 1 := by omega
        have hin : q2 + 1 ≤ n := by omega
        have KR := HR.out (q2 + 1) (d + 1) false (ks ++ A2) ve we hin (by omega) (by omega) (by omega) HBV.out (by simp; omega)
        rw [cast1] at KR
        have HPX : Hid (Pre xs p d false A2 (q2 + 1)) := HPV.out
        generalize hi1 : q2 + 1 = i1 at hi2 hmi hin KR HPX hlen2
        clear hi1
        refine KR.mono ?_
        rintro e w3 ⟨j, v3, ok, rfl, hkp, hok⟩
        have HKP := hid hkp
        clear hkp KR
        cases ok with
        | false =>
          clear hok
          go_wp2_with fail
          go_ret3
          exact val_no _ HKP.out
        | true =>
          obtain ⟨app, hb3, hpl, hn1, hn2, hpj, hjl, hl3, hrv⟩ := hok rfl
          have HB3 := hid hb3
          have hjl' : j ≤ n := by rw [← HT.out.len]; exact hjl
          have hb3l : ks.length + A2.length + app.length ≤ 8 * j := by simpa [Nat.add_assoc] using hl3
          have haft := aft_val xs p d false A2 app _ _ j HPX.out rfl hpl hn1 hn2 (by rw [HLV.out, HLIN.out]; exact hrv)
          have HAFT := hid haft
          have hmj := Nat.lt_of_le_of_lt (le_skip xs _) hpj
          clear hb3 hpl hn1 hn2 hl3 hrv haft hok hpj
          have HJL := hid hjl
          clear hjl
          go_wp2_with fail
          refine (skip_any tb toff n cap xs j w3 HT.out.len (by omega) hjl' (HT.out.at HKP.out)).mono ?_
          rintro e w4 ⟨rfl, hw4⟩
          have hw4' := hw4.symm
          subst hw4'
          clear hw4
          have hr1 := skip_le xs j HJL.out
          rw [HT.out.len] at hr1
          have hr2 := le_skip xs j
          generalize hr : skip xs j = r at hr1 hr2
          have HRE := hid hr.symm
          clear hr
          by_cases hrn : r < n
          case neg =>
            go_wp2_with fail
            go_ret3
            exact val_no _ HKP.out
          have HRN : Hid (r < xs.length) := by show _ < _; rw [HT.out.len]; exact hrn
          have hcr := HT.out.at HKP.out r hrn
          obtain ⟨c2, hc2⟩ : ∃ c2, c2 = xs.getD r 0 := ⟨_, rfl⟩
          rw [← hc2] at hcr
          have HC2 := hid hc2
          clear hc2
          by_cases h44 : c2 = 44
          · subst h44
            have HPC := hid (pre_comma xs p d false (A2 ++ app) j r HAFT.out HJL.out HRE.out HRN.out HC2.out.symm)
            go_wp2_with (at_builtin; refine app1 rfl (.tmp 150) (.tmp 151) rfl rfl HB3.out rfl (by simp; omega) ?_; intro v5 w5 hb5; have HB5 := hid hb5; clear hb5)
            go_roundw
            case rel => exact ⟨r + 1, A2 ++ app ++ [44], by omega, by omega, by go_num, by simpa using HB5.out, by simp; omega, HPC.out⟩
            case measure => simp [intOf]; omega
          · have e44 : (c2 == 44) = false := by simpa using h44
            by_cases hcl : c2 = 125
            · subst hcl
              clear h44
              go_wp2_with fail
              refine (line_any d HB3.out (by simp; omega) (by omega) (by omega)).mono ?_
              rintro e w5 ⟨v5, rfl, hb5⟩
              have HB5 := hid hb5
              have hl5 := length_line d
              clear hb5
              go_wp2_with (at_builtin; refine app1 rfl (.tmp 169) (.tmp 171) rfl rfl HB5.out rfl (by simp; omega) ?_; intro v6 w6 hb6; have HB6 := hid hb6; clear hb6)
              go_ret3
              have := val_close (ks := ks) (A := A2 ++ app) (d := d) (fl := false) (cl := 125) (by rw [HLI'.out]; simpa using HB6.out) HP.out HC.out (.inr rfl) hd1 HAFT.out HJL.out HRE.out HRN.out (by omega) HC2.out.symm (.inr rfl) (by simp; omega)
              rw [cast1] at this
              exact this
            · have ecl : (c2 != 125) = true := by simpa using hcl
              clear h44 hcl
              go_wp2_with fail
              go_ret3
              exact val_no _ HKP.out

end Go.Proofs.Qxb6601636a.J
