/-
  THE WALK of (Amount).Grouped.
-/
import Derived.Test.Qxb6601769aDoorPlain
import Derived.Deep.QuietTactic
import Derived.BigQuiet
namespace Go.Proofs.Qxb6601769aDoor.M
open Go.RowKit
set_option linter.unusedVariables false

/-- What the road reads of memory that came in: the table of powers of ten; bytealg.MaxLen, whatever int. -/
structure Env (w : World) : Prop where
  tab : Lib.TabIs Tryd.prog w pn .u64 Lib.pow10Tab
  max : ∃ m, w.cell? ⟨0, 0, none⟩ = some (.int .i64 m)
theorem Env.kept {w w' : World} (h : Env w) (hk : Kept w.heap.size w w') : Env w' := by
  refine ⟨tab_kept h.tab hk, ?_⟩
  obtain ⟨m, hm⟩ := h.max
  exact ⟨m, by rw [hk.cell (World.block_lt_of_cell? _ _ hm)]; exact hm⟩

/-- A number and its magnitude. -/
structure Num (neg : Bool) (m : Nat) (n : Int) : Prop where
  eq : n = if neg = true then -(m : Int) else (m : Int)
  pos : neg = true → 1 ≤ m
  le : neg = true → m ≤ 9223372036854775808
  lt : neg = false → m < 9223372036854775808

theorem str_mk (l : List UInt8) : (⟨l.toArray⟩ : ByteArray).data.toList = l := by simp

theorem fx_true (m : Nat) : fx true m = 45 :: (Lib.decDigits (m / 100) ++ 46 :: [d1 m, d2 m]) := by simp [fx, sgn]
theorem fx_false (m : Nat) : fx false m = Lib.decDigits (m / 100) ++ 46 :: [d1 m, d2 m] := by simp [fx, sgn]
theorem dec_no_dot (u : Nat) : ∀ c ∈ Lib.decDigits u, c ≠ 46 := fun c hc h => by
  have := dec_digit u c hc
  subst h
  simp at this

theorem cut_any (l r : List UInt8) (hl : ∀ c ∈ l, c ≠ 46) (D : ByteArray) (hD : D.data.toList = l ++ 46 :: r) (hs : D.size < 4294967281) (w : World) (he : Env w) :
    Calls Tryd.prog 13 #[.string D, .string ⟨#[46]⟩] w fun e w' => e = .returned (.tuple #[.string ⟨l.toArray⟩, .string ⟨r.toArray⟩, .bool true]) ∧ ∃ n, w' = w.drewN n := by
  obtain ⟨m, hm⟩ := he.max
  have h := Tryd.strings_Cut D ⟨#[46]⟩ m w hs hm
  have e1 : (⟨#[46]⟩ : ByteArray).data.toList = [46] := rfl
  rw [e1, hD, cut_dot l r hl] at h
  exact h

/-- What is still to be written from place pos on. -/
def tl (D : List UInt8) (pos : Nat) : List UInt8 := if pos = 0 then grp D else com (D.drop pos)
theorem tl_zero (D : List UInt8) (h : 0 < D.length) : tl D 0 = [D[0]] ++ tl D 1 := by
  cases D with
  | nil => simp at h
  | cons c l => simp [tl, grp]
theorem tl_com (D : List UInt8) (pos : Nat) (h0 : 0 < pos) (h : pos < D.length) (hm : (D.length - pos) % 3 = 0) : tl D pos = [44] ++ [D[pos]] ++ tl D (pos + 1) := by
  unfold tl
  rw [if_neg (by omega), if_neg (by omega), List.drop_eq_getElem_cons h, com, if_pos (by simp; omega)]
  rfl
theorem tl_bare (D : List UInt8) (pos : Nat) (h0 : 0 < pos) (h : pos < D.length) (hm : ¬ (D.length - pos) % 3 = 0) : tl D pos = [D[pos]] ++ tl D (pos + 1) := by
  unfold tl
  rw [if_neg (by omega), if_neg (by omega), List.drop_eq_getElem_cons h, com, if_neg (by simp; omega)]
theorem tl_end (D : List UInt8) (pos : Nat) (h0 : 0 < D.length) (h : D.length ≤ pos) : tl D pos = [] := by
  unfold tl
  rw [if_neg (by omega), List.drop_eq_nil_of_le h]; rfl
theorem bc1 (c : UInt8) : Lib.byteCells [c] = [.int .u8 (c.toNat : Int)] := rfl
theorem sc_mk (l : List UInt8) : Lib.strCells ⟨l.toArray⟩ = Lib.byteCells l := by simp [Lib.strCells, Lib.byteCells]

theorem iter_len (l : List UInt8) : (⟨l.toArray⟩ : ByteArray).size = l.length := by simp [ByteArray.size]

set_option maxHeartbeats 4000000 in
theorem grouped_any (neg : Bool) (m : Nat) (n : Int) (hn : Num neg m n) (w : World) (he : Env w) :
    Calls Tryd.prog 8 #[.int .i64 n] w fun e w' => e = .returned (.string ⟨(gx neg m).toArray⟩) ∧ Kept w.heap.size w w' := by
  have KS := hid (string_any neg m n hn.eq hn.pos hn.le hn.lt w he.tab)
  have HE := hid he
  have hdl : (Lib.decDigits (m / 100)).length ≤ 20 := by
    rw [Lib.decDigits_length]
    refine nDigits20 _ ?_
    cases neg
    · have := hn.lt rfl; omega
    · have := hn.le rfl; omega
  have HDL := hid hdl
  clear he hdl
  cases neg with
  | true =>
    have hlt : n < 0 := by have := hn.eq; have := hn.pos rfl; simp at *; omega
    clear hn
    generalize hS : (⟨(fx true m).toArray⟩ : ByteArray) = S at KS
    have HS : Hid (S.data.toList = 45 :: (Lib.decDigits (m / 100) ++ 46 :: [d1 m, d2 m])) := by show _ = _; rw [← hS, str_mk, fx_true]
    have hsz : S.size = (Lib.decDigits (m / 100)).length + 4 := by rw [Lib.size_eq, HS.out]; simp
    have hs1 : 1 ≤ S.size := by omega
    have hs1' : (1 : Int) ≤ (S.size : Int) := by omega
    have HSZ := hid hsz
    clear hsz hS
    go_enter Tryd.func8, Tryd.ntmps8
    go_wp2_with fail
    refine KS.out.mono ?_
    rintro e w1 ⟨rfl, hk1⟩
    have HK1 := hid hk1
    clear hk1 KS
    go_wp2_with fail
    go_quiet (fail)
    go_wp2_with fail
    refine (cut_any _ _ (dec_no_dot (m / 100)) (S.extract 1 S.size) (by rw [Lib.extract_to_end, HS.out]; rfl) (by have := HDL.out; have := HSZ.out; simp [ByteArray.size_extract]; omega) _ ((HE.out.kept HK1.out).kept ((Kept.refl _ _).drewN _))).mono ?_
    rintro e w2 ⟨rfl, hq⟩
    have HK2 : Hid (Kept w.heap.size w w2) := by obtain ⟨q, rfl⟩ := hq; exact (HK1.out.drewN _).drewN _
    generalize hD : Lib.decDigits (m / 100) = D at HDL
    have hDD : ∀ c ∈ D, 48 ≤ c.toNat ∧ c.toNat ≤ 57 := by rw [← hD]; exact dec_digit _
    have hD0 : 0 < D.length := by rw [← hD]; exact List.length_pos_iff.2 (dec_ne_nil _)
    have HD := hid hD.symm
    have HDD := hid hDD
    generalize hW : (⟨D.toArray⟩ : ByteArray) = Wh
    generalize hF : (⟨[d1 m, d2 m].toArray⟩ : ByteArray) = Fr
    have HWH := hid hW.symm
    have HFR := hid hF.symm
    have hws : Wh.size = D.length := by rw [← hW]; simp [ByteArray.size]
    have hfr2 : Fr.size ≤ 2 := by rw [← hF]; simp [ByteArray.size]
    have HDF : Hid (Lib.strCells (⟨#[46]⟩ ++ Fr) = Lib.byteCells [46, d1 m, d2 m]) := by
      show _ = _
      rw [← hF]
      simp [Lib.strCells, Lib.byteCells]
    have HDS : Hid (((⟨#[46]⟩ : ByteArray) ++ Fr).size = 3) := by
      show _ = _
      rw [← hF]
      simp [ByteArray.size]
    have hw20 : Wh.size ≤ 20 := by rw [hws]; exact HDL.out
    have HWS := hid hws
    have HAT : Hid (∀ j (h : j < Wh.size), ∃ h' : j < D.length, Wh[j] = D[j]) := by
      intro j h
      subst hW
      exact ⟨by omega, rfl⟩
    clear hW hF hs1 hs1' HS HSZ hq HK1 HE hD hDD hws
    go_wp2_with fail
    refine (writeString_k w2.heap.size w2.heap.size [] ⟨#[45]⟩ _ (Lib.IsBuilderF.of (Lib.fresh_isBuilder 34 5 w2)) (by simp [ByteArray.size]) (by simp)).mono ?_
    rintro e w3 ⟨rfl, hb3, hbel3, hok3⟩
    have HB3 : Hid (Lib.IsBuilderF 34 5 w2.heap.size w2.heap.size (Lib.byteCells [(45 : UInt8)]) w3) := hb3
    have HBE : Hid (Below w2.heap.size w2 w3) := ((Below.refl _ w2).alloc (Nat.le_refl _) _).trans hbel3
    have hsz3 : w2.heap.size < w3.heap.size := by have := hbel3.size; simp at this; omega
    clear hb3 hbel3 hok3
    go_wp2_with fail
    go_loopw [] (fun wr => ∃ (pos : Nat) (acc : List UInt8), pos ≤ Wh.size ∧ Lib.IsBuilderF 34 5 w2.heap.size w2.heap.size (Lib.byteCells acc) wr ∧ wr.heap[w3.heap.size]? = some (.stringIter Wh pos) ∧ Below w2.heap.size w2 wr ∧ acc ++ tl D pos = [(45 : UInt8)] ++ grp D ∧ acc.length ≤ 2 * pos + 1) (fun wr => Wh.size - wr.iterPos w3.heap.size)
    case atStart =>
      refine ⟨0, [(45 : UInt8)], Nat.zero_le _, ?_, ?_, ?_, ?_, by simp⟩
      · exact HB3.out.alloc _
      · exact World.iter_heap w3 Wh 0
      · exact HBE.out.alloc (by omega) _
      · rfl
    case round =>
      obtain ⟨pos, acc, hpos, hI, hit, hbw, hacc, hal⟩ := hrel
      have HACC := hid hacc
      have hszr : w3.heap.size < wr.heap.size := (Array.getElem?_eq_some_iff.1 hit).1
      clear hacc HB3 HBE
      by_cases hp : pos < Wh.size
      · obtain ⟨hpD, hat⟩ := HAT.out pos hp
        have hdig := HDD.out D[pos] (List.getElem_mem hpD)
        rw [← hat] at hdig
        have hlenD : D.length = Wh.size := HWS.out.symm
        have hnx : ∀ ty, (Instr.next (.pointer (some ⟨w3.heap.size, 0, none⟩)) true ty).run Tryd.prog wr = _ := fun ty => Lib.run_next_ascii_at wr w3.heap.size Wh pos ty hit hp (by omega)
        have hI2 := hI.iterAt hit (pos + 1)
        have hit2 := Lib.iterAt_heap wr w3.heap.size Wh pos (pos + 1) hit
        have hbw2 := Lib.below_iterAt hbw (k := w3.heap.size) (by omega) Wh (pos + 1)
        have hsz2 : w2.heap.size ≤ (wr.iterAt w3.heap.size Wh (pos + 1)).heap.size := by rw [Lib.iterAt_size]; omega
        have hc127 : Wh[pos].toNat ≤ 127 := by omega
        have HI2 := hid hI2
        have HIT2 := hid hit2
        have HBW2 := hid hbw2
        have HAT2 := hid hat
        have HLD := hid hlenD
        have hmeas : wr.iterPos w3.heap.size = pos := by simp [World.iterPos, hit]
        have HME := hid hmeas
        clear hI hit hbw hI2 hit2 hbw2 hat hlenD hmeas hdig
        by_cases hz : pos = 0
        · subst hz
          go_wp2_with fail
          refine (writeRune_k w2.heap.size w2.heap.size _ _ hc127 _ HI2.out (by rw [Lib.byteCells_length]; omega) hsz2).mono ?_
          rintro e W1 ⟨x, rfl, h1, b1, k1⟩
          have HA : Hid (Lib.IsBuilderF 34 5 w2.heap.size w2.heap.size (Lib.byteCells (acc ++ [Wh[0]])) W1) := by show Lib.IsBuilderF _ _ _ _ _ _; rw [Lib.byteCells_append]; exact h1
          have HIT := hid (k1.iter HIT2.out (by simp; omega))
          have HB1 := hid (HBW2.out.trans b1)
          clear h1 k1 b1 hnx
          go_wp2_with fail
          go_roundw
          case rel =>
            refine ⟨0 + 1, _, by omega, HA.out, HIT.out, HB1.out, ?_, by simp; omega⟩
            rw [← HACC.out, tl_zero D hD0, HAT2.out, List.append_assoc]
          case measure =>
            have e1 : W1.iterPos w3.heap.size = 0 + 1 := by simp [World.iterPos, HIT.out]
            rw [HME.out, e1]; omega
        · have hz0 : (0 : Int) < (pos : Int) := by omega
          have hz1 : 0 < pos := by omega
          clear hz
          by_cases hm3 : (D.length - pos) % 3 = 0
          · have em : (((Wh.size : Int) - (pos : Int)) % 3 == 0) = true := by
              have := HLD.out
              simp; omega
            have HM3 := hid hm3
            clear hm3
            go_wp2_with fail
            refine (writeByte_k w2.heap.size w2.heap.size _ 44 _ HI2.out (by rw [Lib.byteCells_length]; omega) hsz2).mono ?_
            rintro e W0 ⟨rfl, h0, b0, k0⟩
            have HA0 : Hid (Lib.IsBuilderF 34 5 w2.heap.size w2.heap.size (Lib.byteCells (acc ++ [44])) W0) := by show Lib.IsBuilderF _ _ _ _ _ _; rw [Lib.byteCells_append]; exact h0
            have HIT0 := hid (k0.iter HIT2.out (by simp; omega))
            have HB0 := hid (HBW2.out.trans b0)
            have hszW : w2.heap.size ≤ W0.heap.size := Nat.le_trans hsz2 b0.size
            clear h0 k0 b0 hnx
            go_wp2_with fail
            refine (writeRune_k w2.heap.size w2.heap.size _ _ hc127 _ HA0.out (by rw [Lib.byteCells_length]; simp; omega) hszW).mono ?_
            rintro e W1 ⟨x, rfl, h1, b1, k1⟩
            have HA : Hid (Lib.IsBuilderF 34 5 w2.heap.size w2.heap.size (Lib.byteCells (acc ++ [44] ++ [Wh[pos]])) W1) := by show Lib.IsBuilderF _ _ _ _ _ _; rw [Lib.byteCells_append]; exact h1
            have HIT := hid (k1.iter HIT0.out (by simp; omega))
            have HB1 := hid (HB0.out.trans b1)
            clear h1 k1 b1
            go_wp2_with fail
            go_roundw
            case rel =>
              refine ⟨pos + 1, _, by omega, HA.out, HIT.out, HB1.out, ?_, by simp; omega⟩
              rw [← HACC.out, tl_com D pos hz1 hpD HM3.out, HAT2.out]
              simp only [List.append_assoc]
            case measure =>
              have e1 : W1.iterPos w3.heap.size = pos + 1 := by simp [World.iterPos, HIT.out]
              rw [HME.out, e1]; omega
          · have em : (((Wh.size : Int) - (pos : Int)) % 3 == 0) = false := by
              have := HLD.out
              simp; omega
            have HM3 := hid hm3
            clear hm3
            go_wp2_with fail
            refine (writeRune_k w2.heap.size w2.heap.size _ _ hc127 _ HI2.out (by rw [Lib.byteCells_length]; omega) hsz2).mono ?_
            rintro e W1 ⟨x, rfl, h1, b1, k1⟩
            have HA : Hid (Lib.IsBuilderF 34 5 w2.heap.size w2.heap.size (Lib.byteCells (acc ++ [Wh[pos]])) W1) := by show Lib.IsBuilderF _ _ _ _ _ _; rw [Lib.byteCells_append]; exact h1
            have HIT := hid (k1.iter HIT2.out (by simp; omega))
            have HB1 := hid (HBW2.out.trans b1)
            clear h1 k1 b1 hnx
            go_wp2_with fail
            go_roundw
            case rel =>
              refine ⟨pos + 1, _, by omega, HA.out, HIT.out, HB1.out, ?_, by simp; omega⟩
              rw [← HACC.out, tl_bare D pos hz1 hpD HM3.out, HAT2.out, List.append_assoc]
            case measure =>
              have e1 : W1.iterPos w3.heap.size = pos + 1 := by simp [World.iterPos, HIT.out]
              rw [HME.out, e1]; omega
      · have hnx : ∀ ty, (Instr.next (.pointer (some ⟨w3.heap.size, 0, none⟩)) true ty).run Tryd.prog wr = _ := fun ty => Lib.run_next_end_at wr w3.heap.size Wh pos ty hit hp
        have HI := hid hI
        have HBW := hid hbw
        have hacc' : acc = [(45 : UInt8)] ++ grp D := by rw [← HACC.out, tl_end D pos hD0 (by rw [← HWS.out]; omega), List.append_nil]
        have HA := hid hacc'
        clear hI hbw hit hacc'
        go_wp2_with fail
        refine (writeString_k w2.heap.size w2.heap.size _ _ _ HI.out (by rw [Lib.byteCells_length, HDS.out]; omega) (by omega)).mono ?_
        rintro e W1 ⟨rfl, h1, b1, k1⟩
        rw [HDF.out, ← Lib.byteCells_append] at h1
        have H1 := hid h1
        have hb1 := HBW.out.trans b1
        have HB1 := hid hb1
        have hszW : w2.heap.size ≤ W1.heap.size := hb1.size
        clear h1 b1 k1 hb1 hnx
        go_wp2_with fail
        refine (Tryd.Builder_String_any_k w2.heap.size w2.heap.size _ _ H1.out hszW).mono ?_
        rintro e W2 ⟨rfl, _, b2, _⟩
        have HB2 := hid (HB1.out.trans b2)
        clear b2
        go_wp2_with fail
        go_ret
        refine ⟨ret_str (by rw [HA.out, HD.out]; simp [gx, sgn]), HK2.out.trans ((Kept.of_below HB2.out).mono HK2.out.size)⟩
  | false =>
    have hlt : ¬ n < 0 := by have := hn.eq; simp at *; omega
    clear hn
    generalize hS : (⟨(fx false m).toArray⟩ : ByteArray) = S at KS
    have HS : Hid (S.data.toList = Lib.decDigits (m / 100) ++ 46 :: [d1 m, d2 m]) := by show _ = _; rw [← hS, str_mk, fx_false]
    have hsz : S.size = (Lib.decDigits (m / 100)).length + 3 := by rw [Lib.size_eq, HS.out]; simp
    have HSZ := hid hsz
    clear hsz hS
    go_enter Tryd.func8, Tryd.ntmps8
    go_wp2_with fail
    refine KS.out.mono ?_
    rintro e w1 ⟨rfl, hk1⟩
    have HK1 := hid hk1
    clear hk1 KS
    go_wp2_with fail
    refine (cut_any _ _ (dec_no_dot (m / 100)) S HS.out (by have := HDL.out; have := HSZ.out; omega) _ (HE.out.kept HK1.out)).mono ?_
    rintro e w2 ⟨rfl, hq⟩
    have HK2 : Hid (Kept w.heap.size w w2) := by obtain ⟨q, rfl⟩ := hq; exact HK1.out.drewN _
    generalize hD : Lib.decDigits (m / 100) = D at HDL
    have hDD : ∀ c ∈ D, 48 ≤ c.toNat ∧ c.toNat ≤ 57 := by rw [← hD]; exact dec_digit _
    have hD0 : 0 < D.length := by rw [← hD]; exact List.length_pos_iff.2 (dec_ne_nil _)
    have HD := hid hD.symm
    have HDD := hid hDD
    generalize hW : (⟨D.toArray⟩ : ByteArray) = Wh
    generalize hF : (⟨[d1 m, d2 m].toArray⟩ : ByteArray) = Fr
    have HWH := hid hW.symm
    have HFR := hid hF.symm
    have hws : Wh.size = D.length := by rw [← hW]; simp [ByteArray.size]
    have hfr2 : Fr.size ≤ 2 := by rw [← hF]; simp [ByteArray.size]
    have HDF : Hid (Lib.strCells (⟨#[46]⟩ ++ Fr) = Lib.byteCells [46, d1 m, d2 m]) := by
      show _ = _
      rw [← hF]
      simp [Lib.strCells, Lib.byteCells]
    have HDS : Hid (((⟨#[46]⟩ : ByteArray) ++ Fr).size = 3) := by
      show _ = _
      rw [← hF]
      simp [ByteArray.size]
    have hw20 : Wh.size ≤ 20 := by rw [hws]; exact HDL.out
    have HWS := hid hws
    have HAT : Hid (∀ j (h : j < Wh.size), ∃ h' : j < D.length, Wh[j] = D[j]) := by
      intro j h
      subst hW
      exact ⟨by omega, rfl⟩
    clear hW hF HS HSZ hq HK1 HE hD hDD hws
    go_wp2_with fail
    refine (writeString_k w2.heap.size w2.heap.size [] ⟨#[]⟩ _ (Lib.IsBuilderF.of (Lib.fresh_isBuilder 34 5 w2)) (by simp [ByteArray.size]) (by simp)).mono ?_
    rintro e w3 ⟨rfl, hb3, hbel3, hok3⟩
    have HB3 : Hid (Lib.IsBuilderF 34 5 w2.heap.size w2.heap.size (Lib.byteCells ([] : List UInt8)) w3) := hb3
    have HBE : Hid (Below w2.heap.size w2 w3) := ((Below.refl _ w2).alloc (Nat.le_refl _) _).trans hbel3
    have hsz3 : w2.heap.size < w3.heap.size := by have := hbel3.size; simp at this; omega
    clear hb3 hbel3 hok3
    go_wp2_with fail
    go_loopw [] (fun wr => ∃ (pos : Nat) (acc : List UInt8), pos ≤ Wh.size ∧ Lib.IsBuilderF 34 5 w2.heap.size w2.heap.size (Lib.byteCells acc) wr ∧ wr.heap[w3.heap.size]? = some (.stringIter Wh pos) ∧ Below w2.heap.size w2 wr ∧ acc ++ tl D pos = ([] : List UInt8) ++ grp D ∧ acc.length ≤ 2 * pos + 1) (fun wr => Wh.size - wr.iterPos w3.heap.size)
    case atStart =>
      refine ⟨0, ([] : List UInt8), Nat.zero_le _, ?_, ?_, ?_, ?_, by simp⟩
      · exact HB3.out.alloc _
      · exact World.iter_heap w3 Wh 0
      · exact HBE.out.alloc (by omega) _
      · rfl
    case round =>
      obtain ⟨pos, acc, hpos, hI, hit, hbw, hacc, hal⟩ := hrel
      have HACC := hid hacc
      have hszr : w3.heap.size < wr.heap.size := (Array.getElem?_eq_some_iff.1 hit).1
      clear hacc HB3 HBE
      by_cases hp : pos < Wh.size
      · obtain ⟨hpD, hat⟩ := HAT.out pos hp
        have hdig := HDD.out D[pos] (List.getElem_mem hpD)
        rw [← hat] at hdig
        have hlenD : D.length = Wh.size := HWS.out.symm
        have hnx : ∀ ty, (Instr.next (.pointer (some ⟨w3.heap.size, 0, none⟩)) true ty).run Tryd.prog wr = _ := fun ty => Lib.run_next_ascii_at wr w3.heap.size Wh pos ty hit hp (by omega)
        have hI2 := hI.iterAt hit (pos + 1)
        have hit2 := Lib.iterAt_heap wr w3.heap.size Wh pos (pos + 1) hit
        have hbw2 := Lib.below_iterAt hbw (k := w3.heap.size) (by omega) Wh (pos + 1)
        have hsz2 : w2.heap.size ≤ (wr.iterAt w3.heap.size Wh (pos + 1)).heap.size := by rw [Lib.iterAt_size]; omega
        have hc127 : Wh[pos].toNat ≤ 127 := by omega
        have HI2 := hid hI2
        have HIT2 := hid hit2
        have HBW2 := hid hbw2
        have HAT2 := hid hat
        have HLD := hid hlenD
        have hmeas : wr.iterPos w3.heap.size = pos := by simp [World.iterPos, hit]
        have HME := hid hmeas
        clear hI hit hbw hI2 hit2 hbw2 hat hlenD hmeas hdig
        by_cases hz : pos = 0
        · subst hz
          go_wp2_with fail
          refine (writeRune_k w2.heap.size w2.heap.size _ _ hc127 _ HI2.out (by rw [Lib.byteCells_length]; omega) hsz2).mono ?_
          rintro e W1 ⟨x, rfl, h1, b1, k1⟩
          have HA : Hid (Lib.IsBuilderF 34 5 w2.heap.size w2.heap.size (Lib.byteCells (acc ++ [Wh[0]])) W1) := by show Lib.IsBuilderF _ _ _ _ _ _; rw [Lib.byteCells_append]; exact h1
          have HIT := hid (k1.iter HIT2.out (by simp; omega))
          have HB1 := hid (HBW2.out.trans b1)
          clear h1 k1 b1 hnx
          go_wp2_with fail
          go_roundw
          case rel =>
            refine ⟨0 + 1, _, by omega, HA.out, HIT.out, HB1.out, ?_, by simp; omega⟩
            rw [← HACC.out, tl_zero D hD0, HAT2.out, List.append_assoc]
          case measure =>
            have e1 : W1.iterPos w3.heap.size = 0 + 1 := by simp [World.iterPos, HIT.out]
            rw [HME.out, e1]; omega
        · have hz0 : (0 : Int) < (pos : Int) := by omega
          have hz1 : 0 < pos := by omega
          clear hz
          by_cases hm3 : (D.length - pos) % 3 = 0
          · have em : (((Wh.size : Int) - (pos : Int)) % 3 == 0) = true := by
              have := HLD.out
              simp; omega
            have HM3 := hid hm3
            clear hm3
            go_wp2_with fail
            refine (writeByte_k w2.heap.size w2.heap.size _ 44 _ HI2.out (by rw [Lib.byteCells_length]; omega) hsz2).mono ?_
            rintro e W0 ⟨rfl, h0, b0, k0⟩
            have HA0 : Hid (Lib.IsBuilderF 34 5 w2.heap.size w2.heap.size (Lib.byteCells (acc ++ [44])) W0) := by show Lib.IsBuilderF _ _ _ _ _ _; rw [Lib.byteCells_append]; exact h0
            have HIT0 := hid (k0.iter HIT2.out (by simp; omega))
            have HB0 := hid (HBW2.out.trans b0)
            have hszW : w2.heap.size ≤ W0.heap.size := Nat.le_trans hsz2 b0.size
            clear h0 k0 b0 hnx
            go_wp2_with fail
            refine (writeRune_k w2.heap.size w2.heap.size _ _ hc127 _ HA0.out (by rw [Lib.byteCells_length]; simp; omega) hszW).mono ?_
            rintro e W1 ⟨x, rfl, h1, b1, k1⟩
            have HA : Hid (Lib.IsBuilderF 34 5 w2.heap.size w2.heap.size (Lib.byteCells (acc ++ [44] ++ [Wh[pos]])) W1) := by show Lib.IsBuilderF _ _ _ _ _ _; rw [Lib.byteCells_append]; exact h1
            have HIT := hid (k1.iter HIT0.out (by simp; omega))
            have HB1 := hid (HB0.out.trans b1)
            clear h1 k1 b1
            go_wp2_with fail
            go_roundw
            case rel =>
              refine ⟨pos + 1, _, by omega, HA.out, HIT.out, HB1.out, ?_, by simp; omega⟩
              rw [← HACC.out, tl_com D pos hz1 hpD HM3.out, HAT2.out]
              simp only [List.append_assoc]
            case measure =>
              have e1 : W1.iterPos w3.heap.size = pos + 1 := by simp [World.iterPos, HIT.out]
              rw [HME.out, e1]; omega
          · have em : (((Wh.size : Int) - (pos : Int)) % 3 == 0) = false := by
              have := HLD.out
              simp; omega
            have HM3 := hid hm3
            clear hm3
            go_wp2_with fail
            refine (writeRune_k w2.heap.size w2.heap.size _ _ hc127 _ HI2.out (by rw [Lib.byteCells_length]; omega) hsz2).mono ?_
            rintro e W1 ⟨x, rfl, h1, b1, k1⟩
            have HA : Hid (Lib.IsBuilderF 34 5 w2.heap.size w2.heap.size (Lib.byteCells (acc ++ [Wh[pos]])) W1) := by show Lib.IsBuilderF _ _ _ _ _ _; rw [Lib.byteCells_append]; exact h1
            have HIT := hid (k1.iter HIT2.out (by simp; omega))
            have HB1 := hid (HBW2.out.trans b1)
            clear h1 k1 b1 hnx
            go_wp2_with fail
            go_roundw
            case rel =>
              refine ⟨pos + 1, _, by omega, HA.out, HIT.out, HB1.out, ?_, by simp; omega⟩
              rw [← HACC.out, tl_bare D pos hz1 hpD HM3.out, HAT2.out, List.append_assoc]
            case measure =>
              have e1 : W1.iterPos w3.heap.size = pos + 1 := by simp [World.iterPos, HIT.out]
              rw [HME.out, e1]; omega
      · have hnx : ∀ ty, (Instr.next (.pointer (some ⟨w3.heap.size, 0, none⟩)) true ty).run Tryd.prog wr = _ := fun ty => Lib.run_next_end_at wr w3.heap.size Wh pos ty hit hp
        have HI := hid hI
        have HBW := hid hbw
        have hacc' : acc = ([] : List UInt8) ++ grp D := by rw [← HACC.out, tl_end D pos hD0 (by rw [← HWS.out]; omega), List.append_nil]
        have HA := hid hacc'
        clear hI hbw hit hacc'
        go_wp2_with fail
        refine (writeString_k w2.heap.size w2.heap.size _ _ _ HI.out (by rw [Lib.byteCells_length, HDS.out]; omega) (by omega)).mono ?_
        rintro e W1 ⟨rfl, h1, b1, k1⟩
        rw [HDF.out, ← Lib.byteCells_append] at h1
        have H1 := hid h1
        have hb1 := HBW.out.trans b1
        have HB1 := hid hb1
        have hszW : w2.heap.size ≤ W1.heap.size := hb1.size
        clear h1 b1 k1 hb1 hnx
        go_wp2_with fail
        refine (Tryd.Builder_String_any_k w2.heap.size w2.heap.size _ _ H1.out hszW).mono ?_
        rintro e W2 ⟨rfl, _, b2, _⟩
        have HB2 := hid (HB1.out.trans b2)
        clear b2
        go_wp2_with fail
        go_ret
        refine ⟨ret_str (by rw [HA.out, HD.out]; simp [gx, sgn]), HK2.out.trans ((Kept.of_below HB2.out).mono HK2.out.size)⟩

end Go.Proofs.Qxb6601769aDoor.M
