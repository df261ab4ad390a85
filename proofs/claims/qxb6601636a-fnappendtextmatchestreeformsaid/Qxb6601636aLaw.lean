/-
  THE WALK of FnAppendTextMatchesTreeForm.
-/
import Derived.Test.Qxb6601636aText
import Derived.ProofKit
import Derived.OpenShut
import Derived.Deep.QuietTactic
import Derived.BigQuiet
namespace Go.Proofs.Qxb6601636a.fnAppendTextMatchesTreeForm
open Go.ChangeShapes Go.WideShapes Go.ChangeAt Go.RowKit
set_option linter.unusedVariables false

/-- WHAT THE WALK IS TOLD OF A SLICE OF INTEGERS THAT CAME IN: it is nil; or it leads to a row of 'cap' cells, the numbers 'zs' (the first 'len' are its elements, the rest its spare room), each fitting its kind. -/
def IsRow (k : IntKind) (w : World) (a : Option Addr) (len cap : Nat) (zs : List Int) : Prop :=
  (a = none ∧ len = 0 ∧ cap = 0 ∧ zs = []) ∨
  ∃ x, a = some x ∧ len ≤ cap ∧ cap ≤ maxLen ∧ zs.length = cap ∧ (∀ i, i < zs.length → w.cell? (x.add i) = some (.int k (zs.getD i 0))) ∧ ∀ n ∈ zs, (Lit.int k n).wf = true

/-! ### THE WALK -/
theorem zz_any (a0 a1 : Option Addr) (n0 c0 n1 c1 : Nat) (d : Int) (w : World) (h0 : n0 ≤ 9223372036854775807) (h1 : n1 ≤ 9223372036854775807) :
    Calls Try.prog 9 #[.slice a0 n0 c0, .slice a1 n1 c1, .int .i64 d] w fun e w' => ∃ b, e = .returned (.bool b) ∧ w' = w := by
  by_cases h : 1048576 < n0
  · go_enter Try.func9, Try.ntmps9
    go_wp2
    go_ret
    exact ⟨_, rfl, rfl⟩
  · by_cases h' : 1048576 < n1
    · go_enter Try.func9, Try.ntmps9
      go_wp2
      go_ret
      exact ⟨_, rfl, rfl⟩
    · by_cases h2 : 1048576 < n0 + n1
      · go_enter Try.func9, Try.ntmps9
        go_wp2
        go_ret
        exact ⟨_, rfl, rfl⟩
      · go_enter Try.func9, Try.ntmps9
        go_wp2
        go_ret
        exact ⟨_, rfl, rfl⟩

theorem zz_yes (a0 a1 : Option Addr) (n0 c0 n1 c1 : Nat) (d : Int) (w : World) (h0 : n0 ≤ 524288) (h1 : n1 ≤ 524288) :
    Calls Try.prog 9 #[.slice a0 n0 c0, .slice a1 n1 c1, .int .i64 d] w fun e w' => e = .returned (.bool true) ∧ w' = w := by
  go_enter Try.func9, Try.ntmps9
  go_wp2
  go_ret
  exact ⟨rfl, rfl⟩

theorem kept_drewN {B : Nat} {w w' : World} (h : J.Kept B w w') (q : Nat) : J.Kept B w (w'.drewN q) := ⟨h.os, h.output, h.size, h.block⟩

theorem rebase {wa wb : World} {ao : Option Addr} {len : Nat} {olds : List Value} (h : J.Buf wa ao len olds wa (.slice ao len len) []) (hk : J.Kept wa.heap.size wa wb) : J.Buf wb ao len olds wb (.slice ao len len) [] := by
  obtain ⟨b, off, hc, _⟩ := h
  have hc' : Came wb 1 ao b off len len olds := ⟨hc.le, hc.addr, fun h => Nat.lt_of_lt_of_le (hc.lt h) hk.size, hc.oldsLen, fun j u hj => by
    have hpos : 0 < len := by
      have := (List.getElem?_eq_some_iff.1 hj).1
      have := hc.oldsLen
      omega
    rw [hk.cell (p := ⟨b, off + j, none⟩) (hc.lt hpos)]; exact hc.olds j u hj, by simp⟩
  exact ⟨b, off, hc', Upon.start hc'⟩

/-- jf1Clone of whatever came in, behind a call that kept it. -/
theorem clone_both {w w1 : World} {a0 : Option Addr} {len0 cap0 : Nat} {z0 : List Int} (w0 : IsRow .u8 w a0 len0 cap0 z0) (hs : len0 ≤ 524288) (hk : J.Kept w.heap.size w w1) :
    Calls Try.prog 11 #[.slice a0 len0 cap0] w1 fun e w' => ∃ ao, e = .returned (.slice ao len0 len0) ∧ J.Kept w1.heap.size w1 w' ∧ J.Buf w' ao len0 ((z0.take len0).map (Value.int .u8)) w' (.slice ao len0 len0) [] ∧
      (0 < len0 → ∃ g, ao = some ⟨g, 0, none⟩ ∧ g < w'.heap.size ∧ ∀ i, i < len0 → w'.cell? ⟨g, 0 + i, none⟩ = some (.int .u8 ((z0.take len0).getD i 0))) := by
  rcases w0 with ⟨rfl, rfl, rfl, rfl⟩ | ⟨x, rfl, h1, h2, h3, h4, h5⟩
  · refine (J.clone_nil w1).mono ?_
    rintro e w' ⟨rfl, rfl⟩
    exact ⟨none, rfl, J.Kept.refl _ _, J.Buf.start_empty _ _, fun h => by omega⟩
  · have hx : (z0.take len0).length = len0 := by simp; omega
    refine (J.clone_any x len0 cap0 (z0.take len0) w1 hx (by omega) (fun i hi => ?_)).mono ?_
    · have hc := h4 i (by omega)
      have hb : (x.add i).block < w.heap.size := World.block_lt_of_cell? _ _ hc
      rw [hk.cell hb, hc]
      simp [List.getD, hi]
    · rintro e w' ⟨rfl, hrow, hbel⟩
      have hcells := J.cells_row hx hrow
      refine ⟨_, rfl, J.Kept.of_below hbel, J.Buf.start_row w' _ len0 _ hx hrow, fun h => ⟨_, rfl, ?_, hcells⟩⟩
      exact World.block_lt_of_cell? _ _ (hcells 0 h)

set_option maxHeartbeats 4000000 in
set_option maxRecDepth 100000 in
theorem walk (a0 : Option Addr) (len0 cap0 : Nat) (z0 : List Int) (a1 : Option Addr) (len1 cap1 : Nat) (z1 : List Int) (a2 : Int) (w : World) (w0 : IsRow .u8 w a0 len0 cap0 z0) (w1 : IsRow .u8 w a1 len1 cap1 z1) (w2 : (Lit.int .i64 a2).wf = true) :
    Calls Try.prog 3 #[.slice a0 len0 cap0, .slice a1 len1 cap1, .int .i64 a2] w fun e w' => e = .returned (.bool true) ∧ J.Kept w.heap.size w w' := by
  obtain ⟨hd1, hd2⟩ : -9223372036854775808 ≤ a2 ∧ a2 ≤ 9223372036854775807 := bounds_i64 w2
  have hm0 : len0 ≤ 9223372036854775807 := by
    rcases w0 with ⟨_, h, _, _⟩ | ⟨_, _, h1, h2, _⟩
    · omega
    · unfold maxLen at h2; omega
  have hm1 : len1 ≤ 9223372036854775807 := by
    rcases w1 with ⟨_, h, _, _⟩ | ⟨_, _, h1, h2, _⟩
    · omega
    · unfold maxLen at h2; omega
  clear w2
  have W0 := J.hid w0
  have W1 := J.hid w1
  clear w0 w1
  by_cases hbig : 524288 < len0 ∨ 524288 < len1
  · have K := J.hid (zz_any a0 a1 len0 cap0 len1 cap1 a2 w hm0 hm1)
    go_enter Try.func3, Try.ntmps3
    go_wp2_with fail
    refine K.out.mono ?_
    rintro e w' ⟨b, rfl, rfl⟩
    cases b with
    | false =>
      go_wp2_with fail
      go_ret
      exact ⟨rfl, J.Kept.refl _ _⟩
    | true =>
      by_cases hb0 : 524288 < len0
      · clear hbig
        go_wp2_with fail
        go_ret
        exact ⟨rfl, J.Kept.refl _ _⟩
      · have hb1 : 524288 < len1 := by omega
        clear hbig
        go_wp2_with fail
        go_ret
        exact ⟨rfl, J.Kept.refl _ _⟩
  · have hs0 : len0 ≤ 524288 := by omega
    have hs1 : len1 ≤ 524288 := by omega
    clear hbig hm0 hm1
    have K := J.hid (zz_yes a0 a1 len0 cap0 len1 cap1 a2 w hs0 hs1)
    by_cases hemp : len1 = 0
    · subst hemp
      have K1 := J.hid (J.formOf_empty a1 cap1 a2 w)
      go_enter Try.func3, Try.ntmps3
      go_wp2_with fail
      refine K.out.mono ?_
      rintro e w' ⟨rfl, rfl⟩
      go_wp2_with fail
      refine K1.out.mono ?_
      rintro e w1 ⟨v1, rfl, hk1⟩
      have HK1 := J.hid hk1
      clear hk1
      go_wp2_with fail
      go_ret
      exact ⟨rfl, HK1.out⟩
    · obtain ⟨b, off, xs, rfl, hT, hz, hxe⟩ : ∃ b off xs, a1 = some ⟨b, off, none⟩ ∧ J.Txt w b off len1 cap1 xs ∧ (∀ z ∈ xs, 0 ≤ z ∧ z ≤ 255) ∧ xs = z1.take len1 := by
        rcases W1.out with ⟨_, h, _, _⟩ | ⟨x, rfl, h1, h2, h3, h4, h5⟩
        · omega
        · obtain ⟨b, off, rfl, hc⟩ := ints_at h4 (by omega)
          have hx : (z1.take len1).length = len1 := by simp; omega
          refine ⟨b, off, z1.take len1, rfl, ⟨hx, hs1, h1, h2, ?_, fun i hi => ?_⟩, fun z hz => bounds_u8 (h5 z (List.mem_of_mem_take hz)), rfl⟩
          · exact World.block_lt_of_cell? _ _ (hc 0 (by omega))
          · rw [hc i (by omega)]; simp [List.getD, hi]
      have HT := J.hid hT
      have HZ := J.hid hz
      have HXE := J.hid hxe
      clear hT hz hxe
      have K1 := J.hid (J.formOf_any b off len1 cap1 xs a2 w HT.out hd1 hd2)
      go_enter Try.func3, Try.ntmps3
      go_wp2_with fail
      refine K.out.mono ?_
      rintro e w' ⟨rfl, rfl⟩
      go_wp2_with fail
      refine K1.out.mono ?_
      rintro e w1 ⟨vw, ok, rfl, hk1, hok⟩
      have HK1 := J.hid hk1
      clear hk1 K K1
      cases ok with
      | false =>
        clear hok
        go_wp2_with fail
        go_ret
        exact ⟨rfl, HK1.out⟩
      | true =>
        obtain ⟨app, aw, cw, rfl, hal, hruns, hwant⟩ := hok rfl
        have hal' : app.length ≤ 8 * len1 := by rw [← HT.out.len]; exact hal
        have HRUNS := J.hid hruns
        have HWANT := J.hid hwant
        clear hal hruns hwant hok
        go_wp2_with fail
        refine (clone_both W0.out hs0 HK1.out).mono ?_
        rintro e wa ⟨ao, rfl, hka, hba, hda⟩
        have HKA := J.hid hka
        have HBA := J.hid hba
        have HDA := J.hid hda
        clear hka hba hda
        go_wp2_with fail
        have hkwa : J.Kept w'.heap.size w' wa := HK1.out.trans (HKA.out.mono HK1.out.size)
        have HKWA := J.hid hkwa
        clear hkwa
        refine (J.clone_any ⟨b, off, none⟩ len1 cap1 xs wa HT.out.len (by omega) (fun i hi => by rw [Go.WideShapes.add_plain]; exact HT.out.at HKWA.out i hi)).mono ?_
        rintro e wb ⟨rfl, hrow, hbel⟩
        have hcr := J.cells_row HT.out.len hrow
        have HTB : Hid (J.Txt wb wa.heap.size 0 len1 len1 xs) := ⟨HT.out.len, hs1, Nat.le_refl _, by unfold maxLen; omega, World.block_lt_of_cell? _ _ (hcr 0 (by omega)), hcr⟩
        have HKB := J.hid (J.Kept.of_below hbel)
        clear hrow hcr hbel
        have KA := J.hid (J.appendText_any HTB.out HZ.out a2 hd1 hd2 app hal' hs0 (rebase HBA.out HKB.out) (by have := HRUNS.out; rw [HT.out.len] at this; exact this))
        go_wp2_with fail
        refine KA.out.mono ?_
        rintro e wc ⟨vg, rfl, hbg⟩
        have hz0l : (z0.take len0).length = len0 := by
          rcases W0.out with ⟨_, h, _, h'⟩ | ⟨_, _, h1, _, h3, _⟩
          · subst h h'; rfl
          · simp; omega
        obtain ⟨ag, cg, rfl, hgot⟩ := hbg.cells (by unfold maxLen; omega) hz0l
        have HKC := J.hid hbg.kept
        have HGOT := J.hid hgot
        have HZ0L := J.hid hz0l
        clear hbg hgot KA hz0l
        have hkfin : J.Kept w'.heap.size w' wc := (HKWA.out.trans (HKB.out.mono HKWA.out.size)).trans (HKC.out.mono (Nat.le_trans HKWA.out.size HKB.out.size))
        have HKF := J.hid hkfin
        clear hkfin
        have hdst : 0 < len0 → ∃ g, ao = some ⟨g, 0, none⟩ ∧ ∀ i, i < len0 → wc.cell? ⟨g, 0 + i, none⟩ = some (.int .u8 ((z0.take len0).getD i 0)) := fun h => by
          obtain ⟨g, h1, h2, h3⟩ := HDA.out h
          refine ⟨g, h1, fun i hi => ?_⟩
          rw [HKC.out.cell (p := ⟨g, 0 + i, none⟩) (Nat.lt_of_lt_of_le h2 HKB.out.size), HKB.out.cell (p := ⟨g, 0 + i, none⟩) h2]
          exact h3 i hi
        have hwnt : 0 < app.length → ∃ g o, aw = some ⟨g, o, none⟩ ∧ ∀ i, i < app.length → wc.cell? ⟨g, o + i, none⟩ = some (.int .u8 (app.getD i 0)) := fun h => by
          obtain ⟨g, o, h1, h2, h3⟩ := HWANT.out h
          refine ⟨g, o, h1, fun i hi => ?_⟩
          have hga := Nat.lt_of_lt_of_le h2 HKA.out.size
          rw [HKC.out.cell (p := ⟨g, o + i, none⟩) (Nat.lt_of_lt_of_le hga HKB.out.size), HKB.out.cell (p := ⟨g, o + i, none⟩) hga, HKA.out.cell (p := ⟨g, o + i, none⟩) h2]
          exact h3 i hi
        have HDST := J.hid hdst
        have HWNT := J.hid hwnt
        clear hdst hwnt HDA HWANT HBA HTB HKC HKB HKA HKWA HT HRUNS HK1 HXE
        go_wp2_with fail
        go_loopw [10] (fun x wr => ∃ k q : Nat, k ≤ len0 ∧ x = .int .i64 k ∧ wr = wc.drewN q) (fun x _ => len0 - (intOf x).toNat)
        case atStart => exact ⟨0, 0, Nat.zero_le _, rfl, rfl⟩
        case round =>
          obtain ⟨k, q, hk, rfl, rfl⟩ := hrel
          by_cases hkl : k < len0
          · obtain ⟨g, rfl, hc1⟩ := HDST.out (by omega)
            obtain ⟨gg, og, rfl, _, hc2⟩ := HGOT.out (by omega)
            have hcell1 := hc1 k hkl
            have hcell2 := hc2 k (by omega)
            have he : (z0.take len0 ++ app).getD k 0 = (z0.take len0).getD k 0 := by
              rw [List.getD, List.getElem?_append_left (by rw [HZ0L.out]; exact hkl), List.getD]
            rw [he] at hcell2
            clear hc1 hc2 he
            generalize (z0.take len0).getD k 0 = z at hcell1 hcell2
            rw [Nat.zero_add] at hcell1
            have hi1 : (k : Int) < (len0 : Int) := by omega
            have hi2 : (k : Int) < (len0 : Int) + (app.length : Int) := by omega
            have hi3 : k < len0 + app.length := by omega
            go_wp2_with fail
            go_quiet (fail)
            go_wp2_with fail
            go_roundw
            case rel => exact ⟨k + 1, _, by omega, by go_num, rfl⟩
            case measure => simp [intOf]; omega
          · go_wp2_with fail
            go_loopw [11] (fun x wr => ∃ k q : Nat, k ≤ app.length ∧ x = .int .i64 k ∧ wr = wc.drewN q) (fun x _ => app.length - (intOf x).toNat)
            case atStart => exact ⟨0, q, Nat.zero_le _, rfl, rfl⟩
            case round =>
              clear hk hkl
              obtain ⟨k, q, hk, rfl, rfl⟩ := hrel
              by_cases hkl : k < app.length
              · obtain ⟨g, o, rfl, hc1⟩ := HWNT.out (by omega)
                obtain ⟨gg, og, rfl, _, hc2⟩ := HGOT.out (by omega)
                have hcell1 := hc1 k hkl
                have hcell2 := hc2 (len0 + k) (by omega)
                have he : (z0.take len0 ++ app).getD (len0 + k) 0 = app.getD k 0 := by
                  rw [List.getD, List.getElem?_append_right (by rw [HZ0L.out]; omega), HZ0L.out, List.getD]
                  congr 2
                  omega
                rw [he] at hcell2
                clear hc1 hc2 he
                generalize app.getD k 0 = z at hcell1 hcell2
                have hi1 : (k : Int) < (app.length : Int) := by omega
                have hi2 : (len0 : Int) + (k : Int) < (len0 : Int) + (app.length : Int) := by omega
                have hi3 : len0 + k < len0 + app.length := by omega
                have hi4 : (0 : Int) ≤ (len0 : Int) + (k : Int) := by omega
                go_wp2_with fail
                go_quiet (fail)
                go_wp2_with fail
                go_roundw
                case rel => exact ⟨k + 1, _, by omega, by go_num, rfl⟩
                case measure => simp [intOf]; omega
              · go_wp2_with fail
                go_ret
                exact ⟨rfl, kept_drewN HKF.out _⟩


end Go.Proofs.Qxb6601636a.fnAppendTextMatchesTreeForm
