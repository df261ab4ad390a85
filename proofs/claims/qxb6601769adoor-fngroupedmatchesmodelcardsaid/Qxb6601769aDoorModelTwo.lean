/-
  THE WALK of zzGroupedModel, and of FnGroupedMatchesModel.
-/
import Derived.Test.Qxb6601769aDoorModel
namespace Go.Proofs.Qxb6601769aDoor.M
open Go.RowKit
set_option linter.unusedVariables false

theorem info29 : (Tryd.prog.info? 29).map (fun i => (i.zero, i.size, i.bytes)) = some (some (.int .u64 0), 1, 8) := by kernel_rfl

def uc (L : List Nat) : List Value := L.map fun (g : Nat) => Value.int .u64 (g : Int)
theorem uc_append (L M : List Nat) : uc (L ++ M) = uc L ++ uc M := by simp [uc]
/-- A row of groups of the call's own. -/
def Grps (B : Nat) (w : World) (v : Value) (L : List Nat) : Prop := w.ownsRow B 29 1 v L.length (uc L)

/-- append(groups, g) -/
theorem grps1 {B : Nat} {w : World} {v : Value} {L : List Nat} {ops : Array Oper} {rest : List Oper} {o : Oper} {a : Act} {Q : Exit → Act → World → Prop} (g : Nat) {z : Int} (hz : z = (g : Int))
    (hgd : o.guard = none) (s x : Operand) (ho : o.op = .call { callee := .builtin .append, args := #[s, x], argTypes := #[42, 42] })
    (hv : a.eval s = v) (h : Grps B w v L) {k : Nat} (hx : a.eval x = .slice (some ⟨k, 0, none⟩) 1 1) (hk : k = w.heap.size)
    (hb : L.length ≤ 1000000) (hB : B ≤ w.heap.size)
    (hK : ∀ v' w', Grps B w' v' (L ++ [g]) → Below B w w' → wpList Tryd.prog ops Q rest (a.put o.dst v') w') : wpList Tryd.prog ops Q (o :: rest) a (w.alloc (.cells #[.int .u64 z] 29)) := by
  subst hz
  subst hk
  obtain ⟨i0, hi, hz0, hz1, hz2⟩ := info_parts info29
  have hA : (w.alloc (.cells #[.int .u64 (g : Int)] 29)).ownsRow B 29 1 v L.length (uc L) := World.ownsRow.alloc h _
  refine wpList_append_own _ hgd s x 42 ho B 29 i0 (.int .u64 0) 1 8 Tryd.underlying42 hi hz0 hz1 hz2 rfl (by decide) v L.length _ hv hA ⟨w.heap.size, 0, none⟩ 1 1 [.int .u64 (g : Int)] hx rfl ?_ (by simp [Value.oneCell']) (by unfold maxLen; omega) (by omega) (by simp; omega) ?_
  · intro j u hj
    match j, hj with
    | 0, hj => simp at hj; subst hj; simp [Addr.add]
  · intro v' w' hown hgrow _
    refine hK v' w' ?_ (((Below.refl B w).alloc hB _).grown hgrow (by simp; omega) (fun k hk => (h.lt k hk).1))
    unfold Grps
    rw [List.length_append, uc_append]
    exact hown

theorem Grps.value {B : Nat} {w : World} {v : Value} {L : List Nat} (h : Grps B w v L) (h0 : 0 < L.length) :
    ∃ g cap, v = .slice (some ⟨g, 0, none⟩) L.length cap ∧ g < w.heap.size ∧ ∀ j (hj : j < L.length), w.cell? ⟨g, j, none⟩ = some (.int .u64 (L[j] : Int)) := by
  have h' := h
  rcases h.2 with ⟨_, hz⟩ | ⟨g, cap, cur, hv, hb, _⟩
  · omega
  · subst hv
    have hc : ∀ j (hj : j < L.length), w.cell? ⟨g, j, none⟩ = some (.int .u64 (L[j] : Int)) := fun j hj => by
      have := World.ownsRow.cellAt (h := h') j (by omega)
      rw [this]
      unfold uc
      rw [List.getElem?_map, List.getElem?_eq_getElem hj]
      rfl
    exact ⟨g, cap, rfl, World.block_lt_of_cell? _ _ (hc 0 h0), hc⟩

/-- append(out, l2...) -/
theorem ownL {B : Nat} {w : World} {v : Value} {l : List UInt8} {ops : Array Oper} {rest : List Oper} {o : Oper} {a : Act} {Q : Exit → Act → World → Prop} (l2 : List UInt8)
    (hgd : o.guard = none) (s x : Operand) (ho : o.op = .call { callee := .builtin .append, args := #[s, x], argTypes := #[26, 26] })
    (hv : a.eval s = v) (h : Own B w v l) {g cp : Nat} (hx : a.eval x = .slice (some ⟨g, 0, none⟩) l2.length cp) (hc : ∀ j (hj : j < l2.length), w.cell? ⟨g, j, none⟩ = some (.int .u8 (l2[j].toNat : Int)))
    (hb : l.length + l2.length ≤ 1000000) (hB : B ≤ w.heap.size)
    (hK : ∀ v' w', Own B w' v' (l ++ l2) → Below B w w' → wpList Tryd.prog ops Q rest (a.put o.dst v') w') : wpList Tryd.prog ops Q (o :: rest) a w := by
  obtain ⟨i0, hi, hz0, hz1, hz2⟩ := info_parts info5
  refine wpList_append_own _ hgd s x 26 ho B 5 i0 (.int .u8 0) 1 1 Tryd.underlying26 hi hz0 hz1 hz2 rfl (by decide) v l.length _ hv h ⟨g, 0, none⟩ l2.length cp (Lib.byteCells l2) hx (by simp [Lib.byteCells]) ?_ (fun u hu => by simp only [Lib.byteCells, List.mem_map] at hu; obtain ⟨b, _, rfl⟩ := hu; rfl) (by unfold maxLen; omega) (by omega) hB ?_
  · intro j u hj
    unfold Lib.byteCells at hj
    rw [List.getElem?_map] at hj
    obtain ⟨b, hb1, hb2⟩ := Option.map_eq_some_iff.1 hj
    obtain ⟨hjl, rfl⟩ := List.getElem?_eq_some_iff.1 hb1
    subst hb2
    rw [Lib.add_plain, Nat.zero_add]
    exact hc j hjl
  · intro v' w' hown hgrow _
    refine hK v' w' ?_ ((Below.refl B w).grown hgrow hB (fun k hk => (h.lt k hk).1))
    unfold Own
    rw [List.length_append, Lib.byteCells_append]
    exact hown

theorem Own.below {B : Nat} {w w' : World} {v : Value} {l : List UInt8} (h : Own B w v l) (hb : Below w.heap.size w w') : Own B w' v l := by
  have hg : w.grownBy w' none := ⟨hb.os, hb.tape, hb.output, hb.size, fun k hk _ => hb.block k hk⟩
  refine World.ownsRow.kept h hg ?_
  cases hv : v.ownBlock with
  | none => exact .inl rfl
  | some k => exact .inr (by simp)

theorem ext_len (L : List Nat) : (ext L).length = 4 * L.length := by
  induction L with
  | nil => rfl
  | cons g L ih => simp [ext, ih]; omega

theorem drop_zero_ext (L : List Nat) : ext (L.drop 0) = ext L := rfl

set_option maxHeartbeats 4000000 in
set_option maxRecDepth 100000 in
theorem gmodel_any (neg : Bool) (m : Nat) (n : Int) (hn : Num neg m n) (w : World) :
    Calls Tryd.prog 9 #[.int .i64 n] w fun e w' => e = .returned (.string ⟨(gx neg m).toArray⟩) ∧ Below w.heap.size w w' := by
  have hm : m ≤ 9223372036854775808 := by
    cases neg
    · have := hn.lt rfl; omega
    · exact hn.le rfl
  have hsgn : (neg = true ∧ n < 0) ∨ (neg = false ∧ 0 ≤ n) := by
    cases neg
    · right; have := hn.eq; simp at this; exact ⟨rfl, by omega⟩
    · left; have := hn.eq; have := hn.pos rfl; simp at *; omega
  have KM := hid (magnitude_any neg m n hn)
  have HS := hid hsgn
  obtain ⟨i0, hi, hz0, hz1, hz2⟩ := info_parts info29
  have HI := hid hi
  have HZ0 := hid hz0
  have HZ1 := hid hz1
  have HZ2 := hid hz2
  have eW : (m : Int) / 100 = ((m / 100 : Nat) : Int) := by omega
  have eF : (m : Int) % 100 = ((m % 100 : Nat) : Int) := by omega
  have hW : m / 100 ≤ 92233720368547758 := by omega
  have hF : m % 100 < 100 := by omega
  have HD1 : Hid (((d1 m).toNat : Int) = 48 + ((m % 100 : Nat) : Int) / 10) := by unfold Hid; rw [d1_val]; omega
  have HD2 : Hid (((d2 m).toNat : Int) = 48 + ((m % 100 : Nat) : Int) % 10) := by unfold Hid; rw [d2_val]; omega
  have HGX : Hid (gx neg m = sgn neg ++ grp (Lib.decDigits (m / 100)) ++ [46] ++ [d1 m] ++ [d2 m]) := by unfold gx Hid; simp
  generalize gx neg m = gl at HGX
  generalize d1 m = b1 at HD1 HGX
  generalize d2 m = b2 at HD2 HGX
  generalize m / 100 = W at eW hW HGX
  generalize m % 100 = F at eF hF HD1 HD2
  clear hi hz0 hz1 hz2 hn hsgn
  go_enter Tryd.func9, Tryd.ntmps9
  go_wp2_with fail
  refine (KM.out _).mono ?_
  rintro e w1 ⟨rfl, rfl⟩
  clear KM
  go_wp2_with (at_make; refine wpList_make_own _ rfl _ _ 42 rfl w1.heap.size 29 i0 (.int .u64 0) 1 Tryd.underlying42 HI.out HZ0.out HZ1.out .i64 .i64 _ 8 rfl rfl rfl ?b2 ?b3 ?b4 ?_)
  case b2 => rw [HZ2.out]; decide
  case b3 => decide
  case b4 => exact Nat.le_refl _
  intro w3 hown hgrow
  have HO3 : Hid (Grps w1.heap.size w3 (.slice (some ⟨w1.heap.size, 0, none⟩) 0 8) []) := hown
  have HB3 : Hid (Below w1.heap.size w1 w3) := (Below.refl _ _).grown hgrow (Nat.le_refl _) (by simp)
  have hs3 : w1.heap.size ≤ w3.heap.size := HB3.out.size
  clear hown hgrow
  go_wp2_with (at_builtin; refine grps1 (W % 1000) (by omega) rfl (.tmp 17) (.tmp 20) rfl rfl HO3.out rfl rfl (by simp) hs3 ?_; intro v5 w5 ho5 hb5; have HO5 := hid ho5; have HB5 := hid (HB3.out.trans hb5); clear ho5 hb5)
  go_loopw [4, 6] (fun x v wr => ∃ (r : Nat) (L : List Nat) (k : Nat), x = .int .u64 r ∧ r ≤ W ∧ r < 1000 ^ k ∧ L.length + k = 6 ∧ Left W L r ∧ Grps w1.heap.size wr v L ∧ Below w1.heap.size w1 wr) (fun x _ _ => (intOf x).toNat)
  case atStart => exact ⟨W / 1000, [W % 1000], 5, by go_num, by omega, by omega, rfl, left_start W, HO5.out, HB5.out⟩
  case round =>
    obtain ⟨r, L, k, rfl, hrW, hrk, hLk, hleft, hown, hbel⟩ := hrel
    have HO := hid hown
    have HB := hid hbel
    have HL := hid hleft
    have HRK := hid hrk
    have hsz : w1.heap.size ≤ wr.heap.size := hbel.size
    clear hown hbel hleft hrk HO3 HB3 HO5 HB5
    by_cases hr : 0 < r
    · go_wp2_with (at_builtin; refine grps1 (r % 1000) (by omega) rfl (.tmp 26) (.tmp 29) rfl rfl HO.out rfl rfl (by omega) hsz ?_; intro v6 w6 ho6 hb6; have HO6 := hid ho6; have HB6 := hid (HB.out.trans hb6); clear ho6 hb6)
      go_roundw
      case rel =>
        have hrk := HRK.out
        have hk : k ≠ 0 := by intro h; subst h; simp at hrk; omega
        obtain ⟨k, rfl⟩ := Nat.exists_eq_succ_of_ne_zero hk
        refine ⟨r / 1000, L ++ [r % 1000], k, by go_num, by omega, ?_, by simp; omega, left_step W L r HL.out hr, HO6.out, HB6.out⟩
        rw [Nat.pow_succ] at hrk
        omega
      case measure => simp [intOf]; omega
    · have hr0 : r = 0 := by omega
      subst hr0
      obtain ⟨L', gl', hLe, hgl, hall, hsum⟩ := HL.out.1 rfl
      subst hLe
      obtain ⟨g, cp, hv, hgw, hcells⟩ := HO.out.value (by simp)
      have hN : (L' ++ [gl']).length = L'.length + 1 := by simp
      rw [hN] at hv hLk
      subst hv
      have hlast : wr.cell? ⟨g, L'.length, none⟩ = some (.int .u64 (gl' : Int)) := by
        rw [hcells L'.length (by omega)]
        simp
      have hmid : ∀ j (hj : j < L'.length), wr.cell? ⟨g, j, none⟩ = some (.int .u64 (L'[j] : Int)) := by
        intro j hj
        rw [hcells j (by omega), List.getElem_append_left hj]
      have HMID := hid hmid
      have HLAST := hid hlast
      have HALL := hid hall
      have HSUM := hid hsum
      have hdl := dec_len3 gl' hgl
      have hd0 : 0 < (Lib.decDigits gl').length := List.length_pos_iff.2 (dec_ne_nil _)
      clear hlast hmid hcells hN hall hsum HL HO HRK
      obtain ⟨wo, hwo⟩ : ∃ wo, wo = wr := ⟨_, rfl⟩
      subst hwo
      rcases HS.out with ⟨hneg, hlt⟩ | ⟨hneg, hge⟩
      · subst hneg
        clear HS
        go_wp2_with (at_builtin; refine own1 45 rfl rfl (.tmp 35) (.tmp 36) rfl rfl (Own.nil wo.heap.size wo) rfl rfl (by simp) (Nat.le_refl _) ?_; intro v6 w6 ho6 hb6 _; have HO6 : Hid (Own wo.heap.size w6 v6 (sgn true)) := ho6; have hl6 : w6.cell? ⟨g, L'.length, none⟩ = some (.int .u64 (gl' : Int)) := (hb6.cell (p := ⟨g, L'.length, none⟩) hgw).trans HLAST.out; have HB6 := hid hb6; clear ho6 hb6)
        refine (decimal_any gl' hgl _).mono ?_
        rintro e w7 ⟨v7, rfl, ho7, hb7⟩
        obtain ⟨g7, cp7, rfl, _, hc7⟩ := ho7.value hd0
        have HO7 : Hid (Own wo.heap.size w7 _ (sgn true)) := HO6.out.below hb7
        have HB7 : Hid (Below wo.heap.size wo w7) := HB6.out.trans (hb7.mono HB6.out.size)
        have hs7 : wo.heap.size ≤ w7.heap.size := HB7.out.size
        have HC7 := hid hc7
        clear ho7 hb7 hc7 HO6 HB6
        have hsg : (sgn true).length ≤ 1 := by decide
        go_wp2_with (at_builtin; refine ownL (Lib.decDigits gl') rfl (.tmp 41) (.tmp 46) rfl rfl HO7.out rfl HC7.out (by omega) hs7 ?_; intro v8 w8 ho8 hb8; have HO8 := hid ho8; have HB8 := hid (HB7.out.trans hb8); clear ho8 hb8)
        go_loopw [7, 9] (fun v x wr => ∃ j : Nat, j ≤ L'.length ∧ x = .int .i64 ((j : Int) - 1) ∧ Own wo.heap.size wr v (sgn true ++ Lib.decDigits gl' ++ ext (L'.drop j)) ∧ Below wo.heap.size wo wr) (fun _ x _ => (intOf x + 1).toNat)
        case atStart => exact ⟨L'.length, Nat.le_refl _, rfl, by rw [List.drop_length]; simpa [ext] using HO8.out, HB8.out⟩
        case round =>
          obtain ⟨j, hj, hx, hown, hbel⟩ := hrel
          have HOJ := hid hown
          have HBJ := hid hbel
          have hsj : wo.heap.size ≤ wr.heap.size := hbel.size
          clear hown hbel HO8 HB8 HO7 HB7 HC7
          by_cases hj0 : j = 0
          · subst hj0
            have hx' : u9 = .int .i64 (-1) := by rw [hx]; rfl
            clear hx
            subst hx'
            have hol : (sgn true ++ Lib.decDigits gl' ++ ext (L'.drop 0)).length ≤ 100 := by
              have := ext_len L'
              rw [List.drop_zero]
              simp only [List.length_append]
              omega
            have hfin : sgn true ++ Lib.decDigits gl' ++ ext (L'.drop 0) ++ [46] ++ [b1] ++ [b2] = gl := by
              rw [HGX.out, ← HSUM.out]
              simp
            have HFIN := hid hfin
            clear hfin
            go_wp2_with (first
              | (at_builtin; refine own1 46 rfl rfl (.tmp 63) (.tmp 64) rfl rfl HOJ.out rfl rfl (by omega) hsj ?_; intro va wa hoa hba _; have HOA := hid hoa; have HBA := hid (HBJ.out.trans hba); have hsa := Nat.le_trans hsj hba.size; clear hoa hba)
              | (at_builtin; refine own1 b1 (by rw [HD1.out]) rfl (.tmp 66) (.tmp 71) rfl rfl HOA.out rfl rfl (by simp only [List.length_append, List.length_singleton] at hol ⊢; omega) hsa ?_; intro vb wb hob hbb _; have HOB := hid hob; have HBB := hid (HBA.out.trans hbb); have hsb := Nat.le_trans hsa hbb.size; clear hob hbb)
              | (at_builtin; refine own1 b2 (by rw [HD2.out]) rfl (.tmp 73) (.tmp 78) rfl rfl HOB.out rfl rfl (by simp only [List.length_append, List.length_singleton] at hol ⊢; omega) hsb ?_; intro vc wc hoc hbc _; rw [HFIN.out] at hoc; have HBC := hid (HBB.out.trans hbc); obtain ⟨gc, cpc, rfl, _, hcc⟩ := hoc.value (by rw [HGX.out]; simp; omega); have hcv := run_convert_bytes_back (P := Tryd.prog) wc 26 9 5 ⟨gc, 0, none⟩ cpc gl Tryd.underlying26 Tryd.underlying5 Tryd.underlying9 (fun j hj => by rw [Lib.add_plain, Nat.zero_add]; exact hcc j hj); clear hoc hbc hcc))
            go_ret
            exact ⟨rfl, HB.out.trans (HBC.out.mono hsz)⟩
          · obtain ⟨i, rfl⟩ : ∃ i, j = i + 1 := ⟨j - 1, by omega⟩
            have hx' : u9 = .int .i64 (i : Int) := by rw [hx]; congr 1; omega
            clear hx
            subst hx'
            have hil : i < L'.length := by omega
            have hol : (sgn true ++ Lib.decDigits gl' ++ ext (L'.drop (i + 1))).length ≤ 100 := by
              have := ext_len (L'.drop (i + 1))
              simp only [List.length_append, List.length_drop] at this ⊢
              omega
            have hg3 : L'[i] < 1000 := HALL.out _ (List.getElem_mem hil)
            have hli := HMID.out i hil
            have HST : Hid (sgn true ++ Lib.decDigits gl' ++ ext (L'.drop (i + 1)) ++ [44] ++ [t1 L'[i]] ++ [t2 L'[i]] ++ [t3 L'[i]] = sgn true ++ Lib.decDigits gl' ++ ext (L'.drop i)) := by
              unfold Hid
              rw [ext_drop L' i hil]
              simp
            have HLI := hid hli
            clear hli
            generalize hG3 : L'[i] = g3 at hg3 HLI HST
            clear hG3
            go_wp2_with (at_builtin; refine own1 44 rfl rfl (.tmp 54) (.tmp 55) rfl rfl HOJ.out rfl rfl (by omega) hsj ?_; intro va wa hoa hba _; have HOA := hid hoa; have HBA := hid (HBJ.out.trans hba); have hsa := Nat.le_trans hsj hba.size; have hla : wa.cell? ⟨g, i, none⟩ = some (.int .u64 (g3 : Int)) := (HBA.out.cell (p := ⟨g, i, none⟩) hgw).trans HLI.out; clear hoa hba)
            refine (append3_any g3 hg3 wo.heap.size _ _ _ HOA.out (by simp only [List.length_append, List.length_singleton] at hol ⊢; omega) hsa).mono ?_
            rintro e wb ⟨vb, rfl, hob, hbb⟩
            rw [HST.out] at hob
            have HOB := hid hob
            have HBB := hid (HBA.out.trans hbb)
            clear hob hbb hla
            go_wp2_with fail
            go_roundw
            case rel => exact ⟨i, by omega, by go_num, HOB.out, HBB.out⟩
            case measure => simp [intOf]
      · subst hneg
        clear HS
        have hl6 := HLAST.out
        have HO6 : Hid (Own wo.heap.size wo (.slice none 0 0) (sgn false)) := Own.nil _ _
        have HB6 := hid (Below.refl wo.heap.size wo)
        go_wp2_with fail
        refine (decimal_any gl' hgl _).mono ?_
        rintro e w7 ⟨v7, rfl, ho7, hb7⟩
        obtain ⟨g7, cp7, rfl, _, hc7⟩ := ho7.value hd0
        have HO7 : Hid (Own wo.heap.size w7 _ (sgn false)) := HO6.out.below hb7
        have HB7 : Hid (Below wo.heap.size wo w7) := HB6.out.trans (hb7.mono HB6.out.size)
        have hs7 : wo.heap.size ≤ w7.heap.size := HB7.out.size
        have HC7 := hid hc7
        clear ho7 hb7 hc7 HO6 HB6
        have hsg : (sgn false).length ≤ 1 := by decide
        go_wp2_with (at_builtin; refine ownL (Lib.decDigits gl') rfl (.tmp 41) (.tmp 46) rfl rfl HO7.out rfl HC7.out (by omega) hs7 ?_; intro v8 w8 ho8 hb8; have HO8 := hid ho8; have HB8 := hid (HB7.out.trans hb8); clear ho8 hb8)
        go_loopw [7, 9] (fun v x wr => ∃ j : Nat, j ≤ L'.length ∧ x = .int .i64 ((j : Int) - 1) ∧ Own wo.heap.size wr v (sgn false ++ Lib.decDigits gl' ++ ext (L'.drop j)) ∧ Below wo.heap.size wo wr) (fun _ x _ => (intOf x + 1).toNat)
        case atStart => exact ⟨L'.length, Nat.le_refl _, rfl, by rw [List.drop_length]; simpa [ext] using HO8.out, HB8.out⟩
        case round =>
          obtain ⟨j, hj, hx, hown, hbel⟩ := hrel
          have HOJ := hid hown
          have HBJ := hid hbel
          have hsj : wo.heap.size ≤ wr.heap.size := hbel.size
          clear hown hbel HO8 HB8 HO7 HB7 HC7
          by_cases hj0 : j = 0
          · subst hj0
            have hx' : u9 = .int .i64 (-1) := by rw [hx]; rfl
            clear hx
            subst hx'
            have hol : (sgn false ++ Lib.decDigits gl' ++ ext (L'.drop 0)).length ≤ 100 := by
              have := ext_len L'
              rw [List.drop_zero]
              simp only [List.length_append]
              omega
            have hfin : sgn false ++ Lib.decDigits gl' ++ ext (L'.drop 0) ++ [46] ++ [b1] ++ [b2] = gl := by
              rw [HGX.out, ← HSUM.out]
              simp
            have HFIN := hid hfin
            clear hfin
            go_wp2_with (first
              | (at_builtin; refine own1 46 rfl rfl (.tmp 63) (.tmp 64) rfl rfl HOJ.out rfl rfl (by omega) hsj ?_; intro va wa hoa hba _; have HOA := hid hoa; have HBA := hid (HBJ.out.trans hba); have hsa := Nat.le_trans hsj hba.size; clear hoa hba)
              | (at_builtin; refine own1 b1 (by rw [HD1.out]) rfl (.tmp 66) (.tmp 71) rfl rfl HOA.out rfl rfl (by simp only [List.length_append, List.length_singleton] at hol ⊢; omega) hsa ?_; intro vb wb hob hbb _; have HOB := hid hob; have HBB := hid (HBA.out.trans hbb); have hsb := Nat.le_trans hsa hbb.size; clear hob hbb)
              | (at_builtin; refine own1 b2 (by rw [HD2.out]) rfl (.tmp 73) (.tmp 78) rfl rfl HOB.out rfl rfl (by simp only [List.length_append, List.length_singleton] at hol ⊢; omega) hsb ?_; intro vc wc hoc hbc _; rw [HFIN.out] at hoc; have HBC := hid (HBB.out.trans hbc); obtain ⟨gc, cpc, rfl, _, hcc⟩ := hoc.value (by rw [HGX.out]; simp; omega); have hcv := run_convert_bytes_back (P := Tryd.prog) wc 26 9 5 ⟨gc, 0, none⟩ cpc gl Tryd.underlying26 Tryd.underlying5 Tryd.underlying9 (fun j hj => by rw [Lib.add_plain, Nat.zero_add]; exact hcc j hj); clear hoc hbc hcc))
            go_ret
            exact ⟨rfl, HB.out.trans (HBC.out.mono hsz)⟩
          · obtain ⟨i, rfl⟩ : ∃ i, j = i + 1 := ⟨j - 1, by omega⟩
            have hx' : u9 = .int .i64 (i : Int) := by rw [hx]; congr 1; omega
            clear hx
            subst hx'
            have hil : i < L'.length := by omega
            have hol : (sgn false ++ Lib.decDigits gl' ++ ext (L'.drop (i + 1))).length ≤ 100 := by
              have := ext_len (L'.drop (i + 1))
              simp only [List.length_append, List.length_drop] at this ⊢
              omega
            have hg3 : L'[i] < 1000 := HALL.out _ (List.getElem_mem hil)
            have hli := HMID.out i hil
            have HST : Hid (sgn false ++ Lib.decDigits gl' ++ ext (L'.drop (i + 1)) ++ [44] ++ [t1 L'[i]] ++ [t2 L'[i]] ++ [t3 L'[i]] = sgn false ++ Lib.decDigits gl' ++ ext (L'.drop i)) := by
              unfold Hid
              rw [ext_drop L' i hil]
              simp
            have HLI := hid hli
            clear hli
            generalize hG3 : L'[i] = g3 at hg3 HLI HST
            clear hG3
            go_wp2_with (at_builtin; refine own1 44 rfl rfl (.tmp 54) (.tmp 55) rfl rfl HOJ.out rfl rfl (by omega) hsj ?_; intro va wa hoa hba _; have HOA := hid hoa; have HBA := hid (HBJ.out.trans hba); have hsa := Nat.le_trans hsj hba.size; have hla : wa.cell? ⟨g, i, none⟩ = some (.int .u64 (g3 : Int)) := (HBA.out.cell (p := ⟨g, i, none⟩) hgw).trans HLI.out; clear hoa hba)
            refine (append3_any g3 hg3 wo.heap.size _ _ _ HOA.out (by simp only [List.length_append, List.length_singleton] at hol ⊢; omega) hsa).mono ?_
            rintro e wb ⟨vb, rfl, hob, hbb⟩
            rw [HST.out] at hob
            have HOB := hid hob
            have HBB := hid (HBA.out.trans hbb)
            clear hob hbb hla
            go_wp2_with fail
            go_roundw
            case rel => exact ⟨i, by omega, by go_num, HOB.out, HBB.out⟩
            case measure => simp [intOf]

set_option maxHeartbeats 2000000 in
theorem model_walk (n : Int) (h1 : -9223372036854775808 ≤ n) (h2 : n ≤ 9223372036854775807) (w : World) (he : Env w) :
    Calls Tryd.prog 3 #[.int .i64 n] w fun e w' => e = .returned (.bool true) ∧ Kept w.heap.size w w' := by
  obtain ⟨neg, m, hnum, hneg⟩ := num_of n h1 h2
  have KG := hid (grouped_any neg m n hnum w he)
  have KM := hid (gmodel_any neg m n hnum)
  generalize (⟨(gx neg m).toArray⟩ : ByteArray) = G at KG KM
  clear he hnum hneg
  go_enter Tryd.func3, Tryd.ntmps3
  go_wp2_with fail
  refine KG.out.mono ?_
  rintro e w1 ⟨rfl, hk1⟩
  have HK1 := hid hk1
  clear hk1 KG
  go_wp2_with fail
  refine (KM.out _).mono ?_
  rintro e w2 ⟨rfl, hk2⟩
  have HK2 : Hid (Kept w.heap.size w w2) := HK1.out.trans ((Kept.of_below hk2).mono HK1.out.size)
  clear hk2 KM
  go_wp2_with fail
  go_ret
  exact ⟨ret_bool (by simp), HK2.out⟩

end Go.Proofs.Qxb6601769aDoor.M
