/-
  THE TREE PRINTER WHOLE: jf1Render and jf1RenderContainer by induction on what is left of the text; jf1FormOf.
-/
import Derived.Test.Qxb6601636aArrLined
import Derived.Test.Qxb6601636aArrDeep
import Derived.Test.Qxb6601636aArrFlat
import Derived.Test.Qxb6601636aObjLined
import Derived.Test.Qxb6601636aObjDeep
import Derived.Test.Qxb6601636aObjFlat
namespace Go.Proofs.Qxb6601636a.J
open Go.RowKit
set_option linter.unusedVariables false

theorem cont_of {W : World} {ao : Option Addr} {tb toff n cap : Nat} {xs : List Int} (T : Txt W tb toff n cap xs) (M : Nat) (hR : RendOK W ao tb toff n cap xs M) : ContOK W ao tb toff n cap xs (M + 1) := by
  intro p d fl ks v w hp hM hc hd1 hd2 hb hks
  rcases hc with hc | hc
  · cases fl with
    | true => exact arr_flat T M hR p d ks v w hp hM hc hd1 hd2 hb hks
    | false =>
      by_cases hd3 : d < 3
      · exact arr_lined T M hR p d ks v w hp hM hc hd1 hd2 hd3 hb hks
      · exact arr_deep T M hR p d ks v w hp hM hc hd1 hd2 hd3 hb hks
  · cases fl with
    | true => exact obj_flat T M hR p d ks v w hp hM hc hd1 hd2 hb hks
    | false =>
      by_cases hd3 : d < 3
      · exact obj_lined T M hR p d ks v w hp hM hc hd1 hd2 hd3 hb hks
      · exact obj_deep T M hR p d ks v w hp hM hc hd1 hd2 hd3 hb hks

theorem rend_all {W : World} {ao : Option Addr} {tb toff n cap : Nat} {xs : List Int} (T : Txt W tb toff n cap xs) (M : Nat) : ContOK W ao tb toff n cap xs M := by
  induction M with
  | zero => intro p d fl ks v w hp hM; omega
  | succ M ih => exact cont_of T M (render_of T M ih)

/-- What jf1FormOf leaves. -/
def Form (w : World) (xs : List Int) (d : Int) : Ending → World → Prop := fun e w' =>
  ∃ (v' : Value) (ok : Bool), e = .returned (.tuple #[v', .bool ok]) ∧ Kept w.heap.size w w' ∧
    (ok = true → ∃ (app : List Int) (a' : Option Addr) (c' : Nat), v' = .slice a' app.length c' ∧ app.length ≤ 8 * xs.length ∧ Runs xs ⟨0, false, 0, d, []⟩ ⟨xs.length, false, 0, d, app⟩ ∧
      (0 < app.length → ∃ g o, a' = some ⟨g, o, none⟩ ∧ g < w'.heap.size ∧ ∀ j, j < app.length → w'.cell? ⟨g, o + j, none⟩ = some (.int .u8 (app.getD j 0))))

theorem Buf.cells {W : World} {ao : Option Addr} {len : Nat} {xs : List Int} {w : World} {v : Value} {ks : List Int} (h : Buf W ao len (xs.map (Value.int .u8)) w v ks) (hmax : len ≤ maxLen) (hl : xs.length = len) :
    ∃ a' c', v = .slice a' (len + ks.length) c' ∧ (0 < len + ks.length → ∃ g o, a' = some ⟨g, o, none⟩ ∧ g < w.heap.size ∧ ∀ j, j < len + ks.length → w.cell? ⟨g, o + j, none⟩ = some (.int .u8 ((xs ++ ks).getD j 0))) := by
  by_cases hpos : 0 < len ∨ 0 < ks.length
  · obtain ⟨b, off, hc, hu⟩ := h
    obtain ⟨g, o', cap', hv, _, _, hcell⟩ := hu.value hc hmax hpos
    have hcell' : ∀ j, j < len + ks.length → w.cell? ⟨g, o' + j, none⟩ = some (.int .u8 ((xs ++ ks).getD j 0)) := fun j hj => by
      rw [hcell j (by omega)]
      have hj' : j < (xs ++ ks).length := by rw [List.length_append]; omega
      rw [← List.map_append]
      simp only [List.getElem?_map, List.getD, List.getElem?_eq_getElem hj', Option.map_some, Option.getD_some]
    refine ⟨_, _, hv, fun _ => ⟨g, o', rfl, ?_, hcell'⟩⟩
    exact World.block_lt_of_cell? _ _ (hcell' 0 (by omega))
  · obtain ⟨a', c', hv⟩ := h.shape
    exact ⟨a', c', hv, fun h => by omega⟩

set_option maxHeartbeats 1000000 in
theorem formOf_any (tb toff n cap : Nat) (xs : List Int) (d : Int) (w : World) (T : Txt w tb toff n cap xs) (hd1 : -9223372036854775808 ≤ d) (hd2 : d ≤ 9223372036854775807) :
    Calls Try.prog 10 #[.slice (some ⟨tb, toff, none⟩) n cap, .int .i64 d] w (Form w xs d) := by
  have T' : Txt (w.alloc (.cells #[] 5)) tb toff n cap xs := ⟨T.len, T.small, T.le, T.max, by have := T.lt; simp; omega, fun i hi => by
    rw [← T.cell i hi]; exact World.cell?_of_block (Below.heap_alloc w _ _ T.lt)⟩
  have K := hid (render_of T' n (rend_all (ao := some ⟨w.heap.size, 0, none⟩) T' n) 0 d false [] (.slice (some ⟨w.heap.size, 0, none⟩) 0 0) (w.alloc (.cells #[] 5)) (by omega) (by omega) hd1 hd2 (Buf.start_empty _ _) (by simp))
  have HT := hid T'
  have HTT := hid T
  have hcap := T.le
  have hmax := T.max
  unfold maxLen at hmax
  have hsm := T.small
  clear T T'
  go_enter Try.func10, Try.ntmps10
  go_wp2_with fail
  refine K.out.mono ?_
  rintro e w1 ⟨j, v1, ok, rfl, hkp, hok⟩
  have hk1 : Kept w.heap.size w w1 := by
    have h0 : Kept w.heap.size w (w.alloc (.cells #[] 5)) := Kept.of_below ((Below.refl _ _).alloc (Nat.le_refl _) _)
    exact h0.trans (hkp.mono (by simp))
  have HK1 := hid hk1
  have HKP := hid hkp
  clear hk1 hkp K
  cases ok with
  | false =>
    clear hok
    go_wp2_with fail
    go_ret2
    exact ⟨v1, false, rfl, HK1.out, fun h => by cases h⟩
  | true =>
    obtain ⟨app, hb, hpl, _, _, hpj, hjl, hlen, hrel⟩ := hok rfl
    have HB := hid hb
    have HREL := hid hrel
    have HJL := hid hjl
    have hjn : j ≤ n := by rw [← HT.out.len]; exact hjl
    simp only [List.nil_append] at hlen
    clear hok hb hrel hjl hpl hpj
    go_wp2_with fail
    refine (skip_any tb toff n cap xs j w1 HT.out.len (by omega) hjn (HT.out.at HKP.out)).mono ?_
    rintro e w2 ⟨rfl, hw2⟩
    have hw2' := hw2.symm
    subst hw2'
    clear hw2
    have hs1 := skip_le xs j HJL.out
    rw [HT.out.len] at hs1
    generalize hs : skip xs j = s at hs1
    have HS := hid hs
    clear hs
    by_cases hsn : s = n
    · subst hsn
      go_wp2_with fail
      go_ret2
      refine ⟨v1, true, rfl, HK1.out, fun _ => ?_⟩
      have hb0 : Buf (w.alloc (.cells #[] 5)) (some ⟨w.heap.size, 0, none⟩) 0 (([] : List Int).map (Value.int .u8)) w1 v1 app := by simpa using HB.out
      obtain ⟨a', c', hv, hcell⟩ := hb0.cells (by unfold maxLen; omega) rfl
      refine ⟨app, a', c', by rw [hv, Nat.zero_add], ?_, runs_whole xs d j app HJL.out HREL.out (by rw [HS.out, HT.out.len]), fun h => ?_⟩
      · rw [HT.out.len]; omega
      · obtain ⟨g, o, h1, h2, h3⟩ := hcell (by omega)
        exact ⟨g, o, h1, h2, fun j hj => by simpa using h3 j (by omega)⟩
    · have hne : ((s : Int) != (n : Int)) = true := by simp; omega
      clear hsn
      go_wp2_with fail
      go_ret2
      exact ⟨v1, false, rfl, HK1.out, fun h => by cases h⟩

set_option maxHeartbeats 1000000 in
/-- At a text without a byte. -/
theorem formOf_empty (a : Option Addr) (cap : Nat) (d : Int) (w : World) : Calls Try.prog 10 #[.slice a 0 cap, .int .i64 d] w fun e w' => ∃ v', e = .returned (.tuple #[v', .bool false]) ∧ Kept w.heap.size w w' := by
  have K1 := hid (fun w => skip_empty a cap 0 w (by omega))
  have KR : Hid (∀ v w, Calls Try.prog 23 #[.slice a 0 cap, .int .i64 0, .int .i64 d, .bool false, v] w fun e w' => e = .returned (.tuple #[.int .i64 0, v, .bool false]) ∧ w' = w) := by
    intro v w
    go_enter Try.func23, Try.ntmps23
    go_wp2_with fail
    refine (K1.out w).mono ?_
    rintro e w' ⟨rfl, rfl⟩
    go_wp2_with fail
    go_ret3
    exact ⟨rfl, rfl⟩
  go_enter Try.func10, Try.ntmps10
  go_wp2_with fail
  refine (KR.out _ _).mono ?_
  rintro e w1 ⟨rfl, rfl⟩
  go_wp2_with fail
  go_ret2
  exact ⟨_, rfl, Kept.of_below ((Below.refl _ _).alloc (Nat.le_refl _) _)⟩

end Go.Proofs.Qxb6601636a.J
