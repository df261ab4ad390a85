/-
  THE WALK of FnGroupedStripsToString.
-/
import Derived.Test.Qxb6601769aDoorStripsPlain
namespace Go.Proofs.Qxb6601769aDoor.M
open Go.RowKit
set_option linter.unusedVariables false

/-- A row of bytes of the call's own. -/
def Own (B : Nat) (w : World) (v : Value) (l : List UInt8) : Prop := w.ownsRow B 5 1 v l.length (Lib.byteCells l)

theorem Own.alloc {B : Nat} {w : World} {v : Value} {l : List UInt8} (h : Own B w v l) (o : Obj) : Own B (w.alloc o) v l := World.ownsRow.alloc h o
theorem Own.nil (B : Nat) (w : World) : Own B w (.slice none 0 0) [] := World.ownsRow_nil _ _ _ _
theorem Own.value {B : Nat} {w : World} {v : Value} {l : List UInt8} (h : Own B w v l) (h0 : 0 < l.length) :
    ∃ g cap, v = .slice (some ⟨g, 0, none⟩) l.length cap ∧ B ≤ g ∧ ∀ j (hj : j < l.length), w.cell? ⟨g, j, none⟩ = some (.int .u8 (l[j].toNat : Int)) := by
  have h' := h
  rcases h.2 with ⟨_, hz⟩ | ⟨g, cap, cur, hv, hb, _⟩
  · omega
  · subst hv
    refine ⟨g, cap, rfl, hb, fun j hj => ?_⟩
    have := World.ownsRow.cellAt (h := h') j (by omega)
    rw [this, bc_get l j hj]

/-- append(out, c) -/
theorem own1 {B : Nat} {w : World} {v : Value} {l : List UInt8} {ops : Array Oper} {rest : List Oper} {o : Oper} {a : Act} {Q : Exit → Act → World → Prop} (c : UInt8) {z : Int} (hz : z = (c.toNat : Int))
    (hgd : o.guard = none) (s x : Operand) (ho : o.op = .call { callee := .builtin .append, args := #[s, x], argTypes := #[26, 26] })
    (hv : a.eval s = v) (h : Own B w v l) {k : Nat} (hx : a.eval x = .slice (some ⟨k, 0, none⟩) 1 1) (hk : k = w.heap.size)
    (hb : l.length ≤ 1000000) (hB : B ≤ w.heap.size)
    (hK : ∀ v' w', Own B w' v' (l ++ [c]) → Below B w w' → Lib.OthersKept 5 none w w' → wpList Tryd.prog ops Q rest (a.put o.dst v') w') : wpList Tryd.prog ops Q (o :: rest) a (w.alloc (.cells #[.int .u8 z] 5)) := by
  subst hz
  subst hk
  obtain ⟨i0, hi, hz0, hz1, hz2⟩ := info_parts info5
  have hA : (w.alloc (.cells #[.int .u8 (c.toNat : Int)] 5)).ownsRow B 5 1 v l.length (Lib.byteCells l) := World.ownsRow.alloc h _
  refine wpList_append_own _ hgd s x 26 ho B 5 i0 (.int .u8 0) 1 1 Tryd.underlying26 hi hz0 hz1 hz2 rfl (by decide) v l.length _ hv hA ⟨w.heap.size, 0, none⟩ 1 1 [.int .u8 (c.toNat : Int)] hx rfl ?_ (by simp [Value.oneCell']) (by unfold maxLen; omega) (by omega) (by simp; omega) ?_
  · intro j u hj
    match j, hj with
    | 0, hj => simp at hj; subst hj; simp [Addr.add]
  · intro v' w' hown hgrow _
    refine hK v' w' ?_ (((Below.refl B w).alloc hB _).grown hgrow (by simp; omega) (fun k hk => (h.lt k hk).1)) (((Lib.OthersKept.refl _ _ w).alloc _).grown hgrow (Lib.ownsRow_kind hA))
    unfold Own
    rw [List.length_append, Lib.byteCells_append]
    exact hown

theorem flt_yes (l : List UInt8) (k : Nat) (h : k < l.length) (hn : noc l[k] = true) : (l.take (k + 1)).filter noc = (l.take k).filter noc ++ [l[k]] := by
  rw [List.take_succ_eq_append_getElem h, List.filter_append]; simp [hn]
theorem flt_no (l : List UInt8) (k : Nat) (h : k < l.length) (hn : noc l[k] = false) : (l.take (k + 1)).filter noc = (l.take k).filter noc := by
  rw [List.take_succ_eq_append_getElem h, List.filter_append]; simp [hn]

theorem at_T {gl sg T tail : List UInt8} {s0 i : Nat} (hT : gl = sg ++ (T ++ tail)) (hs : sg.length = s0) (h1 : s0 ≤ i) (h2 : i - s0 < T.length) (h : i < gl.length) : gl[i] = T[i - s0] := by
  subst hT; subst hs
  rw [List.getElem_append_right h1, List.getElem_append_left h2]
theorem at_tail {gl sg T tail : List UInt8} {s0 i : Nat} (hT : gl = sg ++ (T ++ tail)) (hs : sg.length = s0) (h1 : s0 + T.length ≤ i) (h2 : i - s0 - T.length < tail.length) (h : i < gl.length) : gl[i] = tail[i - s0 - T.length] := by
  subst hT; subst hs
  rw [List.getElem_append_right (by omega), List.getElem_append_right (by omega)]
theorem chk_cons (T : List UInt8) (j r k : Nat) (h : j < T.length) (hc : Chk (T.drop j) r k) : (T[j] = 44 → ¬ bad r k ∧ Chk (T.drop (j + 1)) 0 (k + 1)) ∧ (T[j] ≠ 44 → Chk (T.drop (j + 1)) (r + 1) k) := by
  rw [List.drop_eq_getElem_cons h, Chk] at hc
  split at hc
  · rename_i e; exact ⟨fun _ => hc, fun h => absurd e h⟩
  · rename_i e; exact ⟨fun h => absurd h e, fun _ => hc⟩
theorem b44 {c : UInt8} : ((c.toNat : Int) == 44) = decide (c = 44) := by
  rw [Bool.eq_iff_iff]; simp; constructor
  · intro h; apply UInt8.toNat_inj.1; simp; omega
  · intro h; subst h; rfl
theorem not_bad {r k : Nat} (h : ¬ bad r k) : 1 ≤ r ∧ r ≤ 3 ∧ (k = 0 ∨ (0 < k ∧ r = 3)) := by
  unfold bad at h; omega

set_option maxHeartbeats 4000000 in
set_option maxRecDepth 100000 in
theorem strips_walk (n : Int) (h1 : -9223372036854775808 ≤ n) (h2 : n ≤ 9223372036854775807) (w : World) (he : Env w) :
    Calls Tryd.prog 4 #[.int .i64 n] w fun e w' => e = .returned (.bool true) ∧ Kept w.heap.size w w' := by
  obtain ⟨neg, m, hnum, hneg⟩ := num_of n h1 h2
  have hm : m ≤ 9223372036854775808 := by
    cases neg
    · have := hnum.lt rfl; omega
    · exact hnum.le rfl
  have HE := hid he
  have KG := hid (grouped_any neg m n hnum w he)
  have KS : Hid (∀ w, Env w → _) := fun w he => string_any neg m n hnum.eq hnum.pos hnum.le hnum.lt w he.tab
  have hgl := gx_len neg m hm
  have HF := hid (gx_filter neg m)
  have hfx0 : 0 < (fx neg m).length := by unfold fx; simp; omega
  have hform : ∃ s0 T, gx neg m = sgn neg ++ (T ++ [46, d1 m, d2 m]) ∧ (sgn neg).length = s0 ∧ Chk T 0 0 ∧ (∀ c ∈ T, c = 44 ∨ (48 ≤ c.toNat ∧ c.toNat ≤ 57)) ∧ 0 < T.length ∧ (s0 = 0 → T[0]? ≠ some 44) := by
    have hD0 : 0 < (Lib.decDigits (m / 100)).length := List.length_pos_iff.2 (dec_ne_nil _)
    refine ⟨_, grp (Lib.decDigits (m / 100)), by simp [gx], rfl, chk_grp _ (dec_no_comma _) hD0, grp_chars _ (dec_digit _), ?_, ?_⟩
    · cases h : Lib.decDigits (m / 100) with
      | nil => rw [h] at hD0; simp at hD0
      | cons a l => simp [grp]
    · intro _
      cases h : Lib.decDigits (m / 100) with
      | nil => simp [grp]
      | cons a l =>
        have := dec_no_comma (m / 100) a (by rw [h]; simp)
        simpa [grp] using this
  generalize hG : (⟨(gx neg m).toArray⟩ : ByteArray) = G at KG
  have hsz : G.size = (gx neg m).length := by rw [← hG]; simp [ByteArray.size]
  have HAT : Hid (∀ k (h : k < G.size) (h' : k < (gx neg m).length), G[k] = (gx neg m)[k]) := by
    intro k h h'
    subst hG
    rfl
  have HSZ := hid hsz
  have hs64 : G.size ≤ 64 := by omega
  obtain ⟨i0, hi, hz0, hz1, hz2⟩ := info_parts info5
  clear he hnum hneg hgl hsz hG hm
  go_enter Tryd.func4, Tryd.ntmps4
  go_wp2_with fail
  refine KG.out.mono ?_
  rintro e w1 ⟨rfl, hk1⟩
  have HK1 := hid hk1
  clear hk1 KG
  go_wp2_with fail
  refine (KS.out _ (HE.out.kept HK1.out)).mono ?_
  rintro e w2 ⟨rfl, hk2⟩
  have HK2 : Hid (Kept w.heap.size w w2) := HK1.out.trans (hk2.mono HK1.out.size)
  clear hk2 KS HK1 HE
  generalize hS : (⟨(fx neg m).toArray⟩ : ByteArray) = S
  have HS := hid hS.symm
  clear hS
  go_wp2_with (at_make; refine wpList_make_own _ rfl _ _ 26 rfl w2.heap.size 5 i0 (.int .u8 0) 1 Tryd.underlying26 hi hz0 hz1 .i64 .i64 _ G.size rfl rfl rfl ?b2 ?b3 ?b4 ?_)
  case b2 => rw [hz2]; omega
  case b3 => unfold maxLen; omega
  case b4 => exact Nat.le_refl _
  intro w3 hown hgrow
  have HO3 : Hid (Own w2.heap.size w3 (.slice (some ⟨w2.heap.size, 0, none⟩) 0 G.size) []) := hown
  have HB3 : Hid (Below w2.heap.size w2 w3) := (Below.refl _ _).grown hgrow (Nat.le_refl _) (by simp)
  clear hown hgrow hi hz0 hz1 hz2
  go_wp2_with fail
  obtain ⟨s0, T, hT, hs0, hchk, hchars, hT0, hTh⟩ := hform
  have hd1 := d1_rng m
  have hd2 := d2_rng m
  generalize d1 m = b1 at hT hd1
  generalize d2 m = b2 at hT hd2
  generalize hgl : gx neg m = gl at hT HAT HSZ HF
  generalize fx neg m = fl at HF HS hfx0
  have HF' := HF.out
  have HFX := hid HF'
  clear HF HF' hgl
  have hgl : gl.length = G.size := HSZ.out.symm
  have HGL := hid hgl
  clear hgl HSZ
  have HT := hid hT
  have HCHK := hid hchk
  have HCH := hid hchars
  have HTH := hid hTh
  clear hT hchk hchars hTh
  go_loopw [5, 6] (fun v x wr => ∃ k : Nat, k ≤ G.size ∧ x = .int .i64 k ∧ Own w2.heap.size wr v ((gl.take k).filter noc) ∧ Below w2.heap.size w2 wr) (fun _ x _ => G.size - (intOf x).toNat)
  case atStart => exact ⟨0, Nat.zero_le _, rfl, HO3.out, HB3.out⟩
  case round =>
    obtain ⟨k, hk, rfl, hown, hbel⟩ := hrel
    have HO := hid hown
    have HB := hid hbel
    have hszr : w2.heap.size ≤ wr.heap.size := hbel.size
    clear hown hbel HO3 HB3
    by_cases hlt : k < G.size
    · have hkl : k < gl.length := by rw [HGL.out]; exact hlt
      have hat := HAT.out k hlt hkl
      have hfl : ((gl.take k).filter noc).length ≤ 64 := by
        have h1 := List.length_filter_le noc (gl.take k)
        simp at h1
        omega
      cases hno : noc gl[k] with
      | true =>
        have et : ((G[k].toNat : Int) != 44) = true := by
          rw [hat]
          simp [noc] at hno
          simp
          intro h
          apply hno
          apply UInt8.toNat_inj.1
          simp
          omega
        have HNO := hid hno
        have HATK := hid hat
        clear hno hat
        go_wp2_with (at_builtin; refine own1 G[k] rfl rfl (.tmp 28) (.tmp 32) rfl rfl HO.out rfl rfl (by omega) hszr ?_; intro v5 w5 ho5 hb5 _; have HO5 := hid ho5; have HB5 := hid (HB.out.trans hb5); clear ho5 hb5)
        go_roundw
        case rel => exact ⟨k + 1, by omega, by go_num, by rw [flt_yes gl k hkl HNO.out, ← HATK.out]; exact HO5.out, HB5.out⟩
        case measure => simp [intOf]; omega
      | false =>
        have et : ((G[k].toNat : Int) != 44) = false := by
          rw [hat]
          simp [noc] at hno
          rw [hno]
          rfl
        have HNO := hid hno
        clear hno hat
        go_wp2_with fail
        go_roundw
        case rel => exact ⟨k + 1, by omega, by go_num, by rw [flt_no gl k hkl HNO.out]; exact HO.out, HB.out⟩
        case measure => simp [intOf]; omega
    · have ho : Own w2.heap.size wr u5 fl := by
        have := HO.out
        rw [List.take_of_length_le (by rw [HGL.out]; omega), HFX.out] at this
        exact this
      obtain ⟨g, cp, rfl, _, hcells⟩ := ho.value hfx0
      have hcv := run_convert_bytes_back (P := Tryd.prog) wr 26 9 5 ⟨g, 0, none⟩ cp fl Tryd.underlying26 Tryd.underlying5 Tryd.underlying9 (fun j hj => by rw [Lib.add_plain, Nat.zero_add]; exact hcells j hj)
      rw [← HS.out] at hcv
      have HKF : Hid (Kept w.heap.size w wr) := HK2.out.trans ((Kept.of_below HB.out).mono HK2.out.size)
      clear ho hcells HO HB HK2 hszr HFX
      have hG0 : 0 < G.size := by rw [← HGL.out, HT.out]; simp; omega
      have hG0' : (0 : Int) < (G.size : Int) := by omega
      have hlen : G.size = s0 + T.length + 3 := by rw [← HGL.out, HT.out]; simp; omega
      have hor : (((G[0].toNat : Int) == 45) = true ∧ s0 = 1) ∨ (((G[0].toNat : Int) == 45) = false ∧ s0 = 0) := by
        have hg := HAT.out 0 hG0 (by rw [HGL.out]; exact hG0)
        cases neg with
        | true =>
          left
          have h1 : s0 = 1 := by rw [← hs0]; rfl
          refine ⟨?_, h1⟩
          rw [hg]
          have : gl[0]'(by rw [HGL.out]; exact hG0) = 45 := by
            have e := HT.out
            subst e
            rfl
          rw [this]
          rfl
        | false =>
          right
          have h1 : s0 = 0 := by rw [← hs0]; rfl
          refine ⟨?_, h1⟩
          have h2 := at_T (i := 0) HT.out hs0 (by omega) (by omega) (by rw [HGL.out]; exact hG0)
          have h3 := HCH.out T[0] (List.getElem_mem hT0)
          have h4 : T[0] ≠ 44 := by
            have := HTH.out h1
            rw [List.getElem?_eq_getElem hT0] at this
            simpa using this
          have h5 : gl[0]'(by rw [HGL.out]; exact hG0) = T[0] := by rw [h2]; simp [h1]
          rw [hg, h5]
          simp
          rcases h3 with h3 | h3
          · exact absurd h3 h4
          · omega
      have HS0 := hid hs0
      have HLEN := hid hlen
      clear hs0 HTH HS hlen
      rcases hor with ⟨e0, hs0⟩ | ⟨e0, hs0⟩
      all_goals
        go_wp2_with fail
        go_loop [7, 8, 9] (fun x7 x8 x9 => ∃ i r k : Nat, s0 ≤ i ∧ i ≤ s0 + T.length ∧ x7 = .int .i64 i ∧ x8 = .int .i64 r ∧ x9 = .int .i64 k ∧ r ≤ i ∧ k ≤ i ∧ Chk (T.drop (i - s0)) r k) (fun x7 _ _ => G.size - (intOf x7).toNat)
        case atStart => exact ⟨s0, 0, 0, Nat.le_refl _, by omega, by rw [hs0]; rfl, rfl, rfl, by omega, by omega, by simpa using HCHK.out⟩
        case round =>
          clear e0 HCHK
          obtain ⟨i, r, k, hi1, hi2, rfl, rfl, rfl, hri, hki, hck⟩ := hrel
          have HCK := hid hck
          clear hck
          have hiG : i < G.size := by have := HLEN.out; omega
          have hiG' : (i : Int) < (G.size : Int) := by omega
          have hgi := HAT.out i hiG (by rw [HGL.out]; exact hiG)
          by_cases hin : i - s0 < T.length
          · have hTi := at_T (i := i) HT.out HS0.out hi1 hin (by rw [HGL.out]; exact hiG)
            rw [hTi] at hgi
            have hch := HCH.out T[i - s0] (List.getElem_mem hin)
            have hcc := chk_cons T (i - s0) r k hin HCK.out
            rw [show i - s0 + 1 = (i + 1) - s0 by omega] at hcc
            by_cases h44 : T[i - s0] = 44
            · have ed : ((G[i].toNat : Int) != 46) = true := by rw [hgi, h44]; rfl
              have ec : ((G[i].toNat : Int) == 44) = true := by rw [hgi, h44]; rfl
              obtain ⟨hnb, hnext⟩ := hcc.1 h44
              obtain ⟨hr1, hr3, hkr⟩ := not_bad hnb
              have HN := hid hnext
              clear hcc hnb hnext hgi hTi hch h44
              rcases hkr with rfl | ⟨hk0, rfl⟩
              · go_wp2_with fail
                go_round
                case rel => exact ⟨i + 1, 0, 0 + 1, by omega, by omega, by go_num, rfl, rfl, by omega, by omega, HN.out⟩
                case measure => simp [intOf]; omega
              · go_wp2_with fail
                go_round
                case rel => exact ⟨i + 1, 0, k + 1, by omega, by omega, by go_num, rfl, by go_num, by omega, by omega, HN.out⟩
                case measure => simp [intOf]; omega
            · have hd : 48 ≤ T[i - s0].toNat ∧ T[i - s0].toNat ≤ 57 := hch.resolve_left h44
              have ed : ((G[i].toNat : Int) != 46) = true := by rw [hgi]; simp; omega
              have ec : ((G[i].toNat : Int) == 44) = false := by rw [hgi]; simp; omega
              have HN := hid (hcc.2 h44)
              clear hcc hgi hTi hch h44 hd
              go_wp2_with fail
              go_round
              case rel => exact ⟨i + 1, r + 1, k, by omega, by omega, by go_num, by go_num, rfl, by omega, by omega, HN.out⟩
              case measure => simp [intOf]; omega
          · have hie : i = s0 + T.length := by omega
            have hTi := at_tail (i := i) HT.out HS0.out (by omega) (by subst hie; simp) (by rw [HGL.out]; exact hiG)
            have h46 : G[i] = 46 := by
              rw [hgi, hTi]
              subst hie
              simp
            have ed : ((G[i].toNat : Int) != 46) = false := by rw [h46]; rfl
            have hnb : ¬ bad r k := by
              have := HCK.out
              rw [List.drop_eq_nil_of_le (by omega)] at this
              exact this
            obtain ⟨hr1, hr3, hkr⟩ := not_bad hnb
            have HIE := hid hie
            clear hnb hgi hTi h46 hie HCK
            have hne' : ((i : Int) == (G.size : Int)) = false := by simp; omega
            rcases hkr with rfl | ⟨hk0, rfl⟩
            all_goals
              go_wp2_with fail
              go_loop [10] (fun x => ∃ j : Nat, i ≤ j ∧ j ≤ G.size ∧ x = .int .i64 j) (fun x => G.size - (intOf x).toNat)
              case atStart => exact ⟨i, Nat.le_refl _, by omega, rfl⟩
              case round =>
                obtain ⟨j, hj1, hj2, rfl⟩ := hrel
                by_cases hjG : j < G.size
                · have hgj := HAT.out j hjG (by rw [HGL.out]; exact hjG)
                  have hTj := at_tail (i := j) HT.out HS0.out (by have := HIE.out; omega) (by have := HIE.out; have := HLEN.out; simp; omega) (by rw [HGL.out]; exact hjG)
                  have e44 : ((G[j].toNat : Int) == 44) = false := by
                    rw [hgj, hTj]
                    have hb : ∀ t (h : t < [46, b1, b2].length), (([46, b1, b2][t].toNat : Int) == 44) = false := by
                      intro t h
                      match t, h with
                      | 0, _ => rfl
                      | 1, _ => simp; omega
                      | 2, _ => simp; omega
                    exact hb _ _
                  clear hgj hTj
                  go_wp2_with fail
                  go_round
                  case rel => exact ⟨j + 1, by omega, by omega, by go_num⟩
                  case measure => simp [intOf]; omega
                · go_wp2_with fail
                  go_ret
                  exact ⟨rfl, HKF.out⟩

end Go.Proofs.Qxb6601769aDoor.M
