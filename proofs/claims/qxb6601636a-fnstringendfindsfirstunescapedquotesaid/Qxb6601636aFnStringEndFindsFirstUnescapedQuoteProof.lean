/-
  THE PROOF OF Rows.FnStringEndFindsFirstUnescapedQuoteSaid. The frame is the guide's skeleton for this function; the walk is ours.
-/
import Derived.Test.Qxb6601636aRows
import Derived.WalkKit
import Derived.ProofKit
import Derived.OpenShut
import Derived.ShutString
import Derived.ChangeOld
import Derived.Below
import Derived.Test.Qxb6601636aEnd
namespace Go.Proofs.Qxb6601636a.fnStringEndFindsFirstUnescapedQuote
open Go.ChangeShapes Go.WideShapes Go.ChangeAt Go.RowKit
open Go.ChangeMaps (open_string shut_string)
set_option linter.unusedVariables false

theorem own : ownKnob Try.prog.godebug = none := by kernel_rfl
theorem laidOut : laidOutB Try.prog = true := by kernel_rfl

/-- WHAT THE WALK IS TOLD OF A SLICE OF INTEGERS THAT CAME IN: it is nil; or it leads to a row of 'cap' cells, the numbers 'zs' (the first 'len' are its elements, the rest its spare room), each fitting its kind. -/
def IsRow (k : IntKind) (w : World) (a : Option Addr) (len cap : Nat) (zs : List Int) : Prop :=
  (a = none ∧ len = 0 ∧ cap = 0 ∧ zs = []) ∨
  ∃ x, a = some x ∧ len ≤ cap ∧ cap ≤ maxLen ∧ zs.length = cap ∧ (∀ i, i < zs.length → w.cell? (x.add i) = some (.int k (zs.getD i 0))) ∧ ∀ n ∈ zs, (Lit.int k n).wf = true

/-! ### THE WALK -/
theorem zz_no (x : Addr) (n cap : Nat) (a1 : Int) (w : World) (h : 1048576 < n) (hc : n ≤ cap) (hm : cap ≤ 2 ^ 63 - 1) :
    Calls Try.prog 17 #[.slice (some x) n cap, .int .i64 a1] w fun e w' => e = .returned (.bool false) ∧ w' = w := by
  go_enter Try.func17, Try.ntmps17
  go_wp2
  go_ret
  exact ⟨rfl, rfl⟩

theorem zz_yes (x : Option Addr) (n cap : Nat) (a1 : Int) (w : World) (h : n ≤ 1048576) :
    Calls Try.prog 17 #[.slice x n cap, .int .i64 a1] w fun e w' => e = .returned (.bool true) ∧ w' = w := by
  go_enter Try.func17, Try.ntmps17
  go_wp2
  go_ret
  exact ⟨rfl, rfl⟩

theorem walk (a0 : Option Addr) (len0 cap0 : Nat) (z0 : List Int) (a1 : Int) (w : World) (w0 : IsRow .u8 w a0 len0 cap0 z0) (w1 : (Lit.int .i64 a1).wf = true) :
    Calls Try.prog 6 #[.slice a0 len0 cap0, .int .i64 a1] w fun e w' => e = .returned (.bool true) ∧ Below w.heap.size w w' := by
  have hb : -9223372036854775808 ≤ a1 ∧ a1 ≤ 9223372036854775807 := bounds_i64 w1
  obtain ⟨hb1, hb2⟩ := hb
  by_cases hlen : 1048576 < len0
  · rcases w0 with ⟨rfl, rfl, rfl, rfl⟩ | ⟨x, rfl, h1, h2, h3, h4, h5⟩
    · omega
    · unfold maxLen at h2
      have K := J.hid (zz_no x len0 cap0 a1 w hlen h1 h2)
      clear h3 h4 h5 w1
      go_enter Try.func6, Try.ntmps6
      go_wp2_with fail
      refine K.out.mono ?_
      rintro e w' ⟨rfl, rfl⟩
      go_wp2
      go_ret
      exact ⟨rfl, Below.refl _ _⟩
  · have hle : len0 ≤ 1048576 := by omega
    clear hlen
    have K := J.hid (zz_yes a0 len0 cap0 a1 w hle)
    by_cases hs : 0 ≤ a1 ∧ a1 < len0
    · obtain ⟨hs1, hs2⟩ := hs
      rcases w0 with ⟨rfl, rfl, rfl, rfl⟩ | ⟨x, rfl, h1, h2, h3, h4, h5⟩
      · omega
      · obtain ⟨b, off, rfl, hc⟩ := ints_at h4 (by omega)
        obtain ⟨k, rfl⟩ : ∃ k : Nat, a1 = k := ⟨a1.toNat, by omega⟩
        have hk : k < len0 := by omega
        have hx : (z0.take len0).length = len0 := by simp; omega
        have hcc : ∀ i, i < len0 → w.cell? ⟨b, off + i, none⟩ = some (.int .u8 ((z0.take len0).getD i 0)) := fun i hi => by
          rw [hc i (by omega)]; simp [List.getD, hi]
        have hl : ∀ z ∈ z0.take len0, 0 ≤ z ∧ z ≤ 255 := fun z hz => bounds_u8 (h5 z (List.mem_of_mem_take hz))
        generalize hxs : z0.take len0 = xs at hx hcc hl
        have HX := J.hid hx
        have HCC := J.hid hcc
        have HL := J.hid hl
        clear hxs h3 h4 h5 hc w1 hx hcc hl
        have K1 := J.hid (J.strClose_any b off len0 cap0 xs k w HX.out hle (by omega) HCC.out)
        have hsl := J.scAt_le xs (k + 1)
        rw [HX.out] at hsl
        generalize hr : J.scAt xs (k + 1) = r at K1 hsl
        have HR := J.hid hr
        clear hr
        by_cases hneg : r < 0
        · go_enter Try.func6, Try.ntmps6
          go_wp2_with fail
          refine K.out.mono ?_
          rintro e w' ⟨rfl, rfl⟩
          go_wp2_with fail
          refine K1.out.mono ?_
          rintro e w' ⟨rfl, rfl⟩
          go_wp2
          go_ret
          exact ⟨rfl, Below.refl _ _⟩
        · have K2 := J.hid (J.clone_any ⟨b, off, none⟩ len0 cap0 xs w HX.out hle (fun i hi => by rw [Go.WideShapes.add_plain]; exact HCC.out i hi))
          go_enter Try.func6, Try.ntmps6
          go_wp2_with fail
          refine K.out.mono ?_
          rintro e w' ⟨rfl, rfl⟩
          go_wp2_with fail
          refine K1.out.mono ?_
          rintro e w' ⟨rfl, rfl⟩
          go_wp2_with fail
          refine K2.out.mono ?_
          rintro e w1 ⟨rfl, hrow, hbel⟩
          have K3 := J.hid (J.zzStringEnd_any w'.heap.size 0 len0 len0 xs k w1 HX.out hle (Nat.le_refl _) (by unfold maxLen; omega) (by rw [HR.out]; omega) HL.out (J.cells_row HX.out hrow))
          rw [HR.out] at K3
          clear hrow
          go_wp2_with fail
          refine K3.out.mono ?_
          rintro e w2 ⟨rfl, rfl⟩
          go_wp2
          go_ret
          exact ⟨rfl, hbel⟩
    · go_enter Try.func6, Try.ntmps6
      go_wp2_with fail
      refine K.out.mono ?_
      rintro e w' ⟨rfl, rfl⟩
      by_cases hs1 : a1 < 0
      · go_wp2
        go_ret
        exact ⟨rfl, Below.refl _ _⟩
      · have hs2 : (len0 : Int) ≤ a1 := by omega
        clear hs
        go_wp2
        go_ret
        exact ⟨rfl, Below.refl _ _⟩

/-! ### THE ROW's STEP (the guide's frame) -/
set_option maxRecDepth 100000 in
theorem lifted (os : Os) (started : os.Started) (H : Type) (enc : TypeId × Value → H) :
    ReturnsInHanded {} Try.checked os 6 .any (Rows.fnStringEndFindsFirstUnescapedQuoteSpec.pre6 enc Try.prog Try.f6 Rows.fnStringEndFindsFirstUnescapedQuoteRow.domain false) (Rows.fnStringEndFindsFirstUnescapedQuoteSpec.post enc Try.prog Try.f6 false true false false) := by
  refine returnsInHanded_of_change (C := Try.checked) own started (by kernel_rfl) Try.func6
    (ChangeSpec.witness6 (enc := enc) (C := Try.checked) false ⟨#[], #[.slice none 0 0, .int .i64 0], []⟩ 8 (by kernel_rfl) (by kernel_rfl) (by kernel_rfl) (by kernel_rfl)) ?_
  intro W base args ds gs before hval0 hW hcnd _
  have hval : ∀ (j : Nat) t v, Try.f6.params[j]? = some t → args[j]? = some v → Value.okWide Try.prog W .any base t v := hval0
  have hW' := hW
  obtain ⟨p, q, hA0, hV, rfl, hfz, hnd⟩ := hW
  have hA : DataW.TrodAll enc Try.prog W 0 (fun _ => true) true Try.f6.params.toList args.toList ds p := hA0
  rw [Try.params6] at hA hval
  obtain ⟨v0, vs0, d0, ds0, p0, q0, hargs, rfl, rfl, h0, r0⟩ := trodAll_cons hA
  obtain ⟨v1, vs1, d1, ds1, p1, q1, rfl, rfl, rfl, h1, r1⟩ := trodAll_cons r0
  obtain ⟨rfl, rfl, rfl⟩ := trodAll_nil r1
  obtain rfl : args = #[v0, v1] := by cases args; simp_all
  obtain ⟨rfl, rfl⟩ := trodVars_none hV
  obtain ⟨a0, len0, cap0, rfl⟩ := okWide_slice Try.underlying22 (hval 0 22 v0 rfl rfl)
  have k0 := h0
  have lt0 : ∀ x ∈ p0, x.block < W.heap.size := by obtain ⟨m, hm⟩ := k0; exact DataW.trod_lt m _ _ _ hm
  obtain ⟨z0, w0⟩ : ∃ zs, IsRow .u8 W a0 len0 cap0 zs := by
    obtain ⟨fuel, hf⟩ := h0
    rcases open_ints Try.underlying22 Try.underlying5 (by kernel_rfl) hf with ⟨hcs, _⟩ | ⟨x, l, c, zs, hcs, _, hl, hm, hz, _, hcell, hwz⟩
    · simp [Value.cells] at hcs
      obtain ⟨rfl, rfl, rfl⟩ := hcs
      exact ⟨[], .inl ⟨rfl, rfl, rfl, rfl⟩⟩
    · simp [Value.cells] at hcs
      obtain ⟨rfl, rfl, rfl⟩ := hcs
      exact ⟨zs, .inr ⟨_, rfl, hl, hm, by simpa using hz, hcell, hwz⟩⟩
  obtain ⟨a1, rfl, rfl, rfl, w1⟩ := open_int Try.underlying3 (hval 1 3 v1 rfl rfl) h1
  clear hA0 hval0
  refine (walk a0 len0 cap0 z0 a1 W w0 w1).mono fun e W' ⟨he, bel⟩ => ?_
  subst he
  exact ⟨_, rfl, _, _, _, [], _, [], hW', trodAll_mk1 (shut_bool Try.underlying4 _), (trodAll_cons_mk (Below.trod laidOut (by kernel_rfl) (of_decide_eq_true (by kernel_rfl)) k0 bel lt0) (trodAll_cons_mk (shut_int Try.underlying3 w1) trodAll_mk0)), rfl, bel.frame _, fun h => by cases h⟩

theorem over : Rows.fnStringEndFindsFirstUnescapedQuoteRow.holds Try.pinned (OpenSpec.ofChange Rows.fnStringEndFindsFirstUnescapedQuoteSpec) :=
  OpenClaim.holds_of_wide 6 Try.f6 rfl rfl rfl rfl rfl rfl rfl ⟨rfl, rfl, rfl, rfl, rfl⟩ rfl rfl rfl rfl rfl (by kernel_rfl) Try.func6 (by kernel_rfl)
    (of_decide_eq_true (by kernel_rfl)) (by unfold Func.isWrapper; first | (rw [if_pos (by decide +kernel)]; kernel_rfl) | (rw [if_neg (by decide +kernel)]; exact ⟨rfl, rfl⟩))
    (fun os started H enc _ => lifted os started H enc)

/-- THE STATEMENT. -/
theorem proved : Rows.FnStringEndFindsFirstUnescapedQuoteSaid := over
end Go.Proofs.Qxb6601636a.fnStringEndFindsFirstUnescapedQuote
