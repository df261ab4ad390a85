/-
  THE WALKS of zzMagnitude, zzDecimal, zzAppend3.
-/
import Derived.Test.Qxb6601769aDoorModelPlain
namespace Go.Proofs.Qxb6601769aDoor.M
open Go.RowKit
set_option linter.unusedVariables false

theorem magnitude_any (neg : Bool) (m : Nat) (n : Int) (hn : Num neg m n) (w : World) :
    Calls Tryd.prog 18 #[.int .i64 n] w fun e w' => e = .returned (.int .u64 m) ∧ w' = w := by
  have he := hn.eq
  cases neg with
  | true =>
    have h1 := hn.pos rfl
    have h2 := hn.le rfl
    simp at he
    subst he
    clear hn
    go_enter Tryd.func18, Tryd.ntmps18
    go_wp2_with fail
    go_ret
    refine ⟨?_, rfl⟩
    congr 2
    go_num
  | false =>
    have h2 := hn.lt rfl
    simp at he
    subst he
    clear hn
    go_enter Tryd.func18, Tryd.ntmps18
    go_wp2_with fail
    go_ret
    exact ⟨rfl, rfl⟩

theorem append3_any (g : Nat) (hg : g < 1000) (B : Nat) (v : Value) (l : List UInt8) (w : World) (ho : Own B w v l) (hl : l.length ≤ 1000) (hB : B ≤ w.heap.size) :
    Calls Tryd.prog 20 #[v, .int .u64 g] w fun e w' => ∃ v', e = .returned v' ∧ Own B w' v' (l ++ [t1 g] ++ [t2 g] ++ [t3 g]) ∧ Below B w w' := by
  have HO := hid ho
  clear ho
  have e1 := t1_val g
  have e2 := t2_val g
  have e3 := t3_val g
  have H1 := hid e1
  have H2 := hid e2
  have H3 := hid e3
  clear e1 e2 e3
  go_enter Tryd.func20, Tryd.ntmps20
  go_wp2_with (first
    | (at_builtin; refine own1 (t1 g) (by rw [H1.out]) rfl (.tmp 5) (.tmp 11) rfl rfl HO.out rfl rfl (by omega) hB ?_; intro v5 w5 ho5 hb5 _; have HO5 := hid ho5; have HB5 := hid hb5; have hs5 := Nat.le_trans hB hb5.size; clear ho5 hb5)
    | (at_builtin; refine own1 (t2 g) (by rw [H2.out]) rfl (.tmp 13) (.tmp 19) rfl rfl HO5.out rfl rfl (by simp; omega) hs5 ?_; intro v6 w6 ho6 hb6 _; have HO6 := hid ho6; have HB6 := hid (HB5.out.trans hb6); have hs6 := Nat.le_trans hs5 hb6.size; clear ho6 hb6)
    | (at_builtin; refine own1 (t3 g) (by rw [H3.out]) rfl (.tmp 21) (.tmp 26) rfl rfl HO6.out rfl rfl (by simp; omega) hs6 ?_; intro v7 w7 ho7 hb7 _; have HO7 := hid ho7; have HB7 := hid (HB6.out.trans hb7); clear ho7 hb7))
  go_ret
  exact ⟨_, rfl, HO7.out, HB7.out⟩

theorem own_le {w : World} {base base' size n : Nat} {e : TypeId} {v : Value} {xs : List Value} (h : w.ownsRow base e size v n xs) (hb : base' ≤ base) : w.ownsRow base' e size v n xs := by
  refine ⟨h.1, ?_⟩
  rcases h.2 with h2 | ⟨g, cap, cur, hv, hg, hr⟩
  · exact .inl h2
  · exact .inr ⟨g, cap, cur, hv, Nat.le_trans hb hg, hr⟩

theorem bc_set (l : List UInt8) (i : Nat) (c : UInt8) : (Lib.byteCells l).set i (.int .u8 (c.toNat : Int)) = Lib.byteCells (l.set i c) := by
  unfold Lib.byteCells; rw [List.map_set]

/-- The second row while it fills: the first i digits stand, the rest is zero. -/
def fillN (D : List UInt8) (i : Nat) : List UInt8 := D.take i ++ List.replicate (D.length - i) 0
theorem fillN_len (D : List UInt8) (i : Nat) (h : i ≤ D.length) : (fillN D i).length = D.length := by unfold fillN; simp; omega
theorem fillN_set (D : List UInt8) (i : Nat) (h : i < D.length) : (fillN D i).set i D[i] = fillN D (i + 1) := by
  unfold fillN
  have e : D.length - i = (D.length - (i + 1)) + 1 := by omega
  rw [e, List.replicate_succ, List.set_append_right _ _ (by simp; omega), List.take_succ_eq_append_getElem h]
  simp only [List.length_take, Nat.min_eq_left (Nat.le_of_lt h), Nat.sub_self, List.set_cons_zero, List.append_assoc, List.singleton_append]
theorem fillN_all (D : List UInt8) : fillN D D.length = D := by unfold fillN; simp
theorem fillN_zero (n : Nat) (D : List UInt8) (h : D.length = n) : Lib.byteCells (fillN D 0) = (madeCells #[Value.int .u8 0] n).toList := by
  subst h
  apply List.ext_getElem
  · simp [fillN, Lib.byteCells, madeCells]
  · intro i h1 h2
    have e : i % 1 = 0 := Nat.mod_one i
    simp [fillN, Lib.byteCells, madeCells, e]

set_option maxHeartbeats 2000000 in
theorem decimal_any (u : Nat) (hu : u < 1000) (w : World) :
    Calls Tryd.prog 19 #[.int .u64 u] w fun e w' => ∃ v, e = .returned v ∧ Own w.heap.size w' v (Lib.decDigits u) ∧ Below w.heap.size w w' := by
  by_cases h0 : u = 0
  · subst h0
    have hD : Lib.decDigits 0 = [48] := by rw [Lib.decDigits_one (by omega)]; rfl
    rw [hD]
    clear hD
    go_enter Tryd.func19, Tryd.ntmps19
    go_wp2_with fail
    go_ret
    refine ⟨_, rfl, ?_, (Below.refl _ _).alloc (Nat.le_refl _) _⟩
    exact World.ownsRow_lit w #[.int .u8 48] 1 (Nat.le_refl _) (by decide) rfl
  · obtain ⟨i0, hi, hz0, hz1, hz2⟩ := info_parts info5
    have HI := hid hi
    have HZ0 := hid hz0
    have HZ1 := hid hz1
    have HZ2 := hid hz2
    clear hi hz0 hz1 hz2
    have e0 : ((u : Int) == 0) = false := by simp; omega
    go_enter Tryd.func19, Tryd.ntmps19
    go_wp2_with fail
    go_loopw [0, 3] (fun x v wr => ∃ (y : Nat) (R : List UInt8) (k : Nat), x = .int .u64 y ∧ y ≤ u ∧ y < 10 ^ k ∧ R.length + k = 3 ∧ Rev u y R ∧ Own w.heap.size wr v R ∧ Below w.heap.size w wr) (fun x _ _ => (intOf x).toNat)
    case atStart => exact ⟨u, [], 3, rfl, Nat.le_refl _, by omega, rfl, ⟨fun _ => by simp, fun h => absurd h h0⟩, Own.nil _ _, Below.refl _ _⟩
    case round =>
      obtain ⟨y, R, k, rfl, hyu, hyk, hRk, hrev, hown, hbel⟩ := hrel
      have HO := hid hown
      have HB := hid hbel
      have HR := hid hrev
      have hsz : w.heap.size ≤ wr.heap.size := hbel.size
      have HYK := hid hyk
      clear hown hbel hrev hyk
      by_cases hy : 0 < y
      · have H3 := hid (t3_val y)
        go_wp2_with (at_builtin; refine own1 (t3 y) (by rw [H3.out]) rfl (.tmp 11) (.tmp 16) rfl rfl HO.out rfl rfl (by omega) hsz ?_; intro v5 w5 ho5 hb5 _; have HO5 := hid ho5; have HB5 := hid (HB.out.trans hb5); clear ho5 hb5)
        go_roundw
        case rel =>
          have hyk := HYK.out
          have hk : k ≠ 0 := by intro h; subst h; simp at hyk; omega
          obtain ⟨k, rfl⟩ := Nat.exists_eq_succ_of_ne_zero hk
          refine ⟨y / 10, R ++ [t3 y], k, by go_num, by omega, ?_, by simp; omega, rev_step u y R HR.out hy, HO5.out, HB5.out⟩
          rw [Nat.pow_succ] at hyk
          omega
        case measure => simp [intOf]; omega
      · have hy0 : y = 0 := by omega
        subst hy0
        have hR : R.reverse = Lib.decDigits u := HR.out.2 rfl
        have hRl : R.length = (Lib.decDigits u).length := by rw [← hR]; simp
        have hR0 : 0 < R.length := by rw [hRl]; exact List.length_pos_iff.2 (dec_ne_nil _)
        obtain ⟨g, cp, rfl, hgB, hcells⟩ := HO.out.value hR0
        have hgl : g < wr.heap.size := by
          have := World.block_lt_of_cell? _ _ (hcells 0 hR0)
          exact this
        have HC := hid hcells
        have HRV := hid hR
        have HRL := hid hRl
        clear hcells hR hRl HR HO HYK
        obtain ⟨wo, hwo⟩ : ∃ wo, wo = wr := ⟨_, rfl⟩
        subst hwo
        go_wp2_with (at_make; refine wpList_make_full _ rfl _ _ 26 rfl wo.heap.size 5 i0 (.int .u8 0) 1 Tryd.underlying26 HI.out HZ0.out HZ1.out .i64 .i64 (R.length : Int) (R.length : Int) R.length rfl rfl rfl rfl ?b2 ?b3 ?b4 ?_)
        case b2 => rw [HZ2.out]; omega
        case b3 => unfold maxLen; omega
        case b4 => exact Nat.le_refl _
        intro w3 hown hgrow
        rw [← fillN_zero R.length (Lib.decDigits u) HRL.out.symm] at hown
        have HO3 := hid hown
        have HB3 : Hid (Below wo.heap.size wo w3) := (Below.refl _ _).grown hgrow (Nat.le_refl _) (by simp)
        clear hown hgrow
        go_wp2_with fail
        go_loopw [5] (fun x wq => ∃ i : Nat, i ≤ R.length ∧ x = .int .i64 i ∧ wq.ownsRow wo.heap.size 5 1 (.slice (some ⟨wo.heap.size, 0, none⟩) R.length R.length) R.length (Lib.byteCells (fillN (Lib.decDigits u) i)) ∧ Below wo.heap.size wo wq) (fun x _ => R.length - (intOf x).toNat)
        case atStart => exact ⟨0, Nat.zero_le _, rfl, HO3.out, HB3.out⟩
        case round =>
          obtain ⟨i, hiR, rfl, hown, hbel⟩ := hrel
          have HOI := hid hown
          have HBI := hid hbel
          clear hown hbel
          by_cases hlt : i < R.length
          · have hDl : i < (Lib.decDigits u).length := by rw [← HRL.out]; exact hlt
            have hst := HOI.out.stored i (.int .u8 ((Lib.decDigits u)[i].toNat : Int))
            rw [bc_set, fillN_set _ _ hDl] at hst
            have hgt : (Lib.decDigits u)[i] = R[R.length - 1 - i]'(by omega) := by
              have : (R.reverse)[i]'(by simpa using hlt) = (Lib.decDigits u)[i] := by simp only [HRV.out]
              rw [← this, List.getElem_reverse]
            have hc1 := HC.out (R.length - 1 - i) (by omega)
            have hc2 : wr.cell? ⟨g, R.length - 1 - i, none⟩ = some (.int .u8 ((Lib.decDigits u)[i].toNat : Int)) := by
              rw [hgt, HBI.out.cell (p := ⟨g, R.length - 1 - i, none⟩) hgl]
              exact hc1
            have hf0 : (fillN (Lib.decDigits u) i)[i]? = some 0 := by
              unfold fillN
              rw [List.getElem?_append_right (by simp; omega)]
              rw [List.length_take, Nat.min_eq_left (Nat.le_of_lt hDl), Nat.sub_self, List.getElem?_replicate, if_pos (by omega)]
            have hc3 : wr.cell? ⟨wo.heap.size, i, none⟩ = some (.int .u8 0) := by
              rw [HOI.out.cellAt i (by omega)]
              unfold Lib.byteCells
              rw [List.getElem?_map, hf0]
              rfl
            have hf := HOI.out.frozenAt i
            have HST := hid hst
            have e1 : (R.length : Int) - 1 - (i : Int) = ((R.length - 1 - i : Nat) : Int) := by omega
            have e2 : R.length - 1 - i < R.length := by omega
            clear hst hgt hc1 hf0
            generalize R.length - 1 - i = q at e1 e2 hc2
            generalize (Lib.decDigits u)[i] = b at HST hc2
            go_wp2_with fail
            go_roundw
            case rel => exact ⟨i + 1, by omega, by go_num, HST.out.1, HBI.out.setCell (Nat.le_refl _) _⟩
            case measure => simp [intOf]; omega
          · have hie : i = R.length := by omega
            subst hie
            go_wp2_with fail
            go_ret
            refine ⟨_, rfl, ?_, HB.out.trans (HBI.out.mono hsz)⟩
            have ho := HOI.out
            have e4 : fillN (Lib.decDigits u) R.length = Lib.decDigits u := by rw [HRL.out, fillN_all]
            rw [e4] at ho
            show World.ownsRow _ _ 5 1 (.slice (some ⟨wo.heap.size, 0, none⟩) R.length R.length) _ _
            rw [← HRL.out]
            exact own_le ho hsz
end Go.Proofs.Qxb6601769aDoor.M
