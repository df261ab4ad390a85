/-
  THE WALK of jf1Render, jf1RenderContainer by its contract.
-/
import Derived.Test.Qxb6601636aSmall
namespace Go.Proofs.Qxb6601636a.J
open Go.RowKit
set_option linter.unusedVariables false

/-- What is known of the text. -/
structure Txt (W : World) (tb toff n cap : Nat) (xs : List Int) : Prop where
  len : xs.length = n
  small : n ≤ 524288
  le : n ≤ cap
  max : cap ≤ maxLen
  lt : tb < W.heap.size
  cell : ∀ i, i < n → W.cell? ⟨tb, toff + i, none⟩ = some (.int .u8 (xs.getD i 0))

theorem Txt.at {W w : World} {tb toff n cap : Nat} {xs : List Int} (h : Txt W tb toff n cap xs) (hk : Kept W.heap.size W w) :
    ∀ i, i < n → w.cell? ⟨tb, toff + i, none⟩ = some (.int .u8 (xs.getD i 0)) := fun i hi => by
  rw [hk.cell (p := ⟨tb, toff + i, none⟩) h.lt]; exact h.cell i hi

/-- What a value that begins at p leaves. -/
def Val (W : World) (ao : Option Addr) (xs : List Int) (d : Int) (fl : Bool) (ks : List Int) (p : Nat) : Ending → World → Prop := fun e w' =>
  ∃ (j : Nat) (v' : Value) (ok : Bool), e = .returned (.tuple #[.int .i64 j, v', .bool ok]) ∧ Kept W.heap.size W w' ∧
    (ok = true → ∃ app, Buf W ao 0 [] w' v' (ks ++ app) ∧ p < xs.length ∧ xs.getD p 0 ≠ 93 ∧ xs.getD p 0 ≠ 125 ∧ p < j ∧ j ≤ xs.length ∧ (ks ++ app).length ≤ 8 * j ∧ RelV xs d fl p j app)

def ContOK (W : World) (ao : Option Addr) (tb toff n cap : Nat) (xs : List Int) (M : Nat) : Prop :=
  ∀ (p : Nat) (d : Int) (fl : Bool) (ks : List Int) (v : Value) (w : World), p < n → n - p ≤ M → (xs.getD p 0 = 91 ∨ xs.getD p 0 = 123) → -9223372036854775808 ≤ d → d ≤ 9223372036854775807 → Buf W ao 0 [] w v ks → ks.length ≤ 8 * p →
    Calls Try.prog 28 #[.slice (some ⟨tb, toff, none⟩) n cap, .int .i64 p, .int .i64 d, .bool fl, v] w (Val W ao xs d fl ks p)
def RendOK (W : World) (ao : Option Addr) (tb toff n cap : Nat) (xs : List Int) (M : Nat) : Prop :=
  ∀ (i : Nat) (d : Int) (fl : Bool) (ks : List Int) (v : Value) (w : World), i ≤ n → n - i ≤ M → -9223372036854775808 ≤ d → d ≤ 9223372036854775807 → Buf W ao 0 [] w v ks → ks.length ≤ 8 * i →
    Calls Try.prog 23 #[.slice (some ⟨tb, toff, none⟩) n cap, .int .i64 i, .int .i64 d, .bool fl, v] w (Val W ao xs d fl ks (skip xs i))

theorem val_no {W : World} {ao : Option Addr} {xs : List Int} {d : Int} {fl : Bool} {ks : List Int} {p : Nat} {w : World} {v : Value} (j : Nat) (h : Kept W.heap.size W w) :
    Val W ao xs d fl ks p (.returned (.tuple #[.int .i64 j, v, .bool false])) w := ⟨j, v, false, rfl, h, fun h => by cases h⟩

theorem sc_pos (l : List Int) (n : Nat) (h : sc l = some n) : 1 ≤ n := by
  obtain ⟨q, _, _, ⟨_, h1⟩ | ⟨e, _, _, m, _, h1⟩⟩ := sc_round l n h <;> omega
theorem scAt_gt (xs : List Int) (m : Nat) (h : 0 ≤ scAt xs m) : (m : Int) < scAt xs m := by
  unfold scAt at h ⊢
  cases e : sc (xs.drop m) with
  | none => rw [e] at h; simp at h
  | some n => have := sc_pos _ n e; simp; omega

theorem val_lit {W : World} {ao : Option Addr} {xs : List Int} {d : Int} {fl : Bool} {ks : List Int} {p j : Nat} {w : World} {v : Value} (hb : Buf W ao 0 [] w v (ks ++ piece xs p j)) (hp : p < xs.length)
    (h1 : isDelim (xs.getD p 0) = false) (hpj : p < j) (hj : j ≤ xs.length) (hks : ks.length ≤ 8 * p) (hk : ∀ k, p ≤ k → k < j → isDelim (xs.getD k 0) = false) :
    Val W ao xs d fl ks p (.returned (.tuple #[.int .i64 j, v, .bool true])) w := by
  refine ⟨j, v, true, rfl, hb.kept, fun _ => ⟨_, hb, hp, ?_, ?_, hpj, hj, ?_, relV_lit xs d fl p j (by omega) hj hk⟩⟩
  · intro h; rw [h] at h1; simp [isDelim] at h1
  · intro h; rw [h] at h1; simp [isDelim] at h1
  · rw [List.length_append, length_piece xs p j hj (by omega)]; omega

set_option maxHeartbeats 1000000 in
theorem render_of {W : World} {ao : Option Addr} {tb toff n cap : Nat} {xs : List Int} (T : Txt W tb toff n cap xs) (M : Nat) (hC : ContOK W ao tb toff n cap xs M) : RendOK W ao tb toff n cap xs M := by
  intro i d fl ks v w hi hM hd1 hd2 hb hks
  have HT := hid T
  have HB := hid hb
  have HC := hid hC
  have hkept := hb.kept
  have hcap := T.le
  have hmax := T.max
  unfold maxLen at hmax
  have hsm := T.small
  have K1 := hid (skip_any tb toff n cap xs i w T.len (by omega) hi (T.at hkept))
  have hple := skip_le xs i (by rw [T.len]; exact hi)
  rw [T.len] at hple
  have hip := le_skip xs i
  have HTok := hid (skip_tok xs i)
  have HK := hid hkept
  generalize hp : skip xs i = p at K1 hple hip HTok ⊢
  clear hp hC hb T hkept
  by_cases hlt : p < n
  · have hcell := HT.out.at HK.out p hlt
    obtain ⟨c, hcd⟩ : ∃ c, c = xs.getD p 0 := ⟨_, rfl⟩
    rw [← hcd] at hcell
    have HCD : Hid (c = xs.getD p 0) := hcd
    clear hcd
    have HP : Hid (p < xs.length) := by show _ < _; rw [HT.out.len]; exact hlt
    by_cases hq : c = 34
    · subst hq
      have K2 := hid (strClose_any tb toff n cap xs p w HT.out.len (by omega) (by omega) (HT.out.at HK.out))
      have hsl := scAt_le xs (p + 1)
      rw [HT.out.len] at hsl
      generalize hr : scAt xs (p + 1) = r at K2 hsl
      have HR := hid hr
      clear hr
      by_cases hneg : r < 0
      · go_enter Try.func23, Try.ntmps23
        go_wp2_with fail
        refine K1.out.mono ?_
        rintro e w' ⟨rfl, rfl⟩
        go_wp2_with fail
        refine K2.out.mono ?_
        rintro e w' ⟨rfl, rfl⟩
        go_wp2_with fail
        go_ret3
        exact val_no _ HK.out
      · obtain ⟨j, rfl⟩ : ∃ j : Nat, r = j := ⟨r.toNat, by omega⟩
        have hpj : p < j := by have := scAt_gt xs (p + 1) (by rw [HR.out]; omega); rw [HR.out] at this; omega
        go_enter Try.func23, Try.ntmps23
        go_wp2_with fail
        refine K1.out.mono ?_
        rintro e w' ⟨rfl, rfl⟩
        go_wp2_with fail
        refine K2.out.mono ?_
        rintro e w' ⟨rfl, rfl⟩
        go_wp2_with (at_builtin; refine appT rfl (.tmp 39) (.tmp 43) rfl rfl HB.out xs tb toff p j n (cap - p) HT.out.len rfl (by omega) (by omega) (HT.out.at HK.out) (by omega) ?_; intro v1 w1 hb1; have HB1 := hid hb1; clear hb1)
        go_ret3
        refine ⟨j, v1, true, rfl, HB1.out.kept, fun _ => ⟨_, HB1.out, HP.out, by rw [← HCD.out]; decide, by rw [← HCD.out]; decide, hpj, by rw [HT.out.len]; omega, ?_, relV_str xs d fl p j HP.out HCD.out.symm HR.out⟩⟩
        rw [List.length_append, length_piece xs p j (by rw [HT.out.len]; omega) (by omega)]
        omega
    · have e1 : (c == 34) = false := by simpa using hq
      have HQ := hid hq
      clear hq
      by_cases hop : c = 91 ∨ c = 123
      · have K3 := hid (HC.out p d fl ks v w hlt (by omega) (by rw [← HCD.out]; exact hop) hd1 hd2 HB.out (by omega))
        rcases hop with rfl | rfl
        all_goals
          go_enter Try.func23, Try.ntmps23
          go_wp2_with fail
          refine K1.out.mono ?_
          rintro e w' ⟨rfl, rfl⟩
          go_wp2_with fail
          refine K3.out.mono ?_
          rintro e w' ⟨j, v', ok, rfl, hkp, hok⟩
          have HKP := hid hkp
          have HOK := hid hok
          clear hkp hok
          go_wp2_with fail
          go_ret3
          exact ⟨j, v', ok, rfl, HKP.out, HOK.out⟩
      · have e2 : (c == 91) = false := by simp; intro h; exact hop (.inl h)
        have e3 : (c == 123) = false := by simp; intro h; exact hop (.inr h)
        clear hop
        have K3 := hid (isDelim_any c)
        cases hdl : isDelim c with
        | true =>
          rw [hdl] at K3
          clear hdl
          go_enter Try.func23, Try.ntmps23
          go_wp2_with fail
          refine K1.out.mono ?_
          rintro e w' ⟨rfl, rfl⟩
          go_wp2_with fail
          refine (K3.out _).mono ?_
          rintro e w' ⟨rfl, rfl⟩
          go_wp2_with fail
          go_ret3
          exact val_no _ HK.out
        | false =>
          have HDL : Hid (isDelim (xs.getD p 0) = false) := by show _ = _; rw [← HCD.out]; exact hdl
          rw [hdl] at K3
          clear hdl
          go_enter Try.func23, Try.ntmps23
          go_wp2_with fail
          refine K1.out.mono ?_
          rintro e w' ⟨rfl, rfl⟩
          go_wp2_with fail
          refine (K3.out _).mono ?_
          rintro e w' ⟨rfl, rfl⟩
          go_wp2_with fail
          go_loop [15] (fun x => ∃ j : Nat, p ≤ j ∧ j ≤ n ∧ x = .int .i64 j ∧ ∀ k, p ≤ k → k < j → isDelim (xs.getD k 0) = false) (fun x => n - (intOf x).toNat)
          case atStart => exact ⟨p, Nat.le_refl _, by omega, rfl, fun k h1 h2 => by omega⟩
          case round =>
            obtain ⟨j, hj1, hj2, rfl, hall⟩ := hrel
            have HA := hid hall
            clear hall K3
            by_cases hjn : j < n
            · have hcj := HT.out.at HK.out j hjn
              obtain ⟨cj, hcjd⟩ : ∃ cj, cj = xs.getD j 0 := ⟨_, rfl⟩
              rw [← hcjd] at hcj
              have HCJ := hid hcjd
              clear hcjd
              have K4 := hid (isDelim_any cj)
              cases hdj : isDelim cj with
              | true =>
                rw [hdj] at K4
                have hpj : p < j := by
                  apply Classical.byContradiction; intro hn'
                  have : p = j := by omega
                  subst this
                  rw [HCJ.out, HDL.out] at hdj
                  cases hdj
                clear hdj
                go_wp2_with (first
                  | (go_at_call 29; refine (K4.out _).mono ?_; rintro e w' ⟨rfl, rfl⟩)
                  | (at_builtin; refine appT rfl (.tmp 80) (.tmp 84) rfl rfl HB.out xs tb toff p j n (cap - p) HT.out.len rfl (by omega) (by omega) (HT.out.at HK.out) (by omega) ?_; intro v1 w1 hb1; have HB1 := hid hb1; clear hb1))
                go_ret3
                exact val_lit HB1.out HP.out HDL.out hpj (by rw [HT.out.len]; omega) (by omega) HA.out
              | false =>
                rw [hdj] at K4
                have HDJ := hid hdj
                clear hdj
                go_wp2_with (go_at_call 29; refine (K4.out _).mono ?_; rintro e w' ⟨rfl, rfl⟩)
                go_round
                case rel =>
                  refine ⟨j + 1, by omega, by omega, by go_num, fun k h1 h2 => ?_⟩
                  by_cases hkj : k = j
                  · subst hkj; rw [← HCJ.out]; exact HDJ.out
                  · exact HA.out k h1 (by omega)
                case measure => simp [intOf]; omega
            · have hjn' : j = n := by omega
              have hpj : p < j := by omega
              clear hjn'
              go_wp2_with (at_builtin; refine appT rfl (.tmp 80) (.tmp 84) rfl rfl HB.out xs tb toff p j n (cap - p) HT.out.len rfl (by omega) (by omega) (HT.out.at HK.out) (by omega) ?_; intro v1 w1 hb1; have HB1 := hid hb1; clear hb1)
              go_ret3
              exact val_lit HB1.out HP.out HDL.out hpj (by rw [HT.out.len]; omega) (by omega) HA.out
  · go_enter Try.func23, Try.ntmps23
    go_wp2_with fail
    refine K1.out.mono ?_
    rintro e w' ⟨rfl, rfl⟩
    go_wp2_with fail
    go_ret3
    exact val_no _ HK.out

end Go.Proofs.Qxb6601636a.J
