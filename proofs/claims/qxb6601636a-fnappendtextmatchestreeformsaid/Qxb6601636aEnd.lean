/-
  THE WALKS of stringEnd, ZZstringEnd, jf1Clone.
-/
import Derived.Test.Qxb6601636aStrs
import Derived.WalkSpells
namespace Go.Proofs.Qxb6601636a.J
open Go.RowKit
set_option linter.unusedVariables false

theorem hid {p : Prop} (h : p) : Hid p := h

theorem cells_drop {w : World} {b off n m q : Nat} {xs : List Int} (hmq : m + q ≤ n)
    (hc : ∀ i, i < n → w.cell? ⟨b, off + i, none⟩ = some (.int .u8 (xs.getD i 0))) :
    ∀ i, i < q → w.cell? ((⟨b, off + m, none⟩ : Addr).add i) = some (.int .u8 (((xs.drop m).take q).getD i 0)) := by
  intro i hi
  rw [Go.WideShapes.add_plain, Nat.add_assoc, hc (m + i) (by omega)]
  simp [List.getD, hi]

theorem cells_row {w : World} {g n : Nat} {xs : List Int} (hx : xs.length = n) (hrow : w.heap[g]? = some (.cells (xs.map (Value.int .u8)).toArray 5 (0, 0))) :
    ∀ i, i < n → w.cell? ⟨g, 0 + i, none⟩ = some (.int .u8 (xs.getD i 0)) := by
  intro i hi
  simp [World.cell?, hrow, List.getD, hx, hi]

set_option maxHeartbeats 800000 in
theorem stringEnd_any (b off n cap : Nat) (xs : List Int) (k : Nat) (w : World) (hx : xs.length = n) (hn : n ≤ 1048576) (hcap : n ≤ cap) (hcm : cap ≤ maxLen) (hr : 0 ≤ scAt xs (k + 1))
    (hl : ∀ z ∈ xs, 0 ≤ z ∧ z ≤ 255)
    (hc : ∀ i, i < n → w.cell? ⟨b, off + i, none⟩ = some (.int .u8 (xs.getD i 0))) :
    Calls Try.prog 26 #[.slice (some ⟨b, off, none⟩) n cap, .int .i64 k] w fun e w' => e = .returned (.int .i64 (scAt xs (k + 1))) ∧ w' = w := by
  have hk := scAt_ge xs (k + 1) hr
  rw [hx] at hk
  have HX : Hid (xs.length = n) := hx
  have HL : Hid (∀ z ∈ xs, 0 ≤ z ∧ z ≤ 255) := hl
  have HC : Hid (∀ i, i < n → w.cell? ⟨b, off + i, none⟩ = some (.int .u8 (xs.getD i 0))) := hc
  have HR : Hid (0 ≤ scAt xs (k + 1)) := hr
  unfold maxLen at hcm
  clear hx hl hc hr
  go_enter Try.func26, Try.ntmps26
  go_wp2
  go_loop [5] (fun j => ∃ m : Nat, m < n ∧ j = .int .i64 m ∧ scAt xs m = scAt xs (k + 1)) (fun j => n + 1 - (intOf j).toNat)
  case atStart => exact ⟨k + 1, by omega, by go_num, rfl⟩
  case round =>
    obtain ⟨m, hm, rfl, hs⟩ := hrel
    have HS : Hid (scAt xs m = scAt xs (k + 1)) := hs
    obtain ⟨q, hq, hql, hor⟩ := scAt_round xs m (by rw [hs]; exact HR.out)
    rw [HX.out] at hql
    clear hs
    have K1 := indexByte_any ⟨b, off + m, none⟩ (n - m) (cap - m) (xs.drop m) 34 w (by rw [List.length_drop, HX.out]) (fun z hz => HL.out z (List.mem_of_mem_drop hz)) (by omega)
      (by have := cells_drop (m := m) (q := n - m) (by omega) HC.out; rwa [List.take_of_length_le (by rw [List.length_drop, HX.out]; omega)] at this)
    have K2 := indexByte_any ⟨b, off + m, none⟩ q (cap - m) ((xs.drop m).take q) 92 w (by rw [List.length_take, List.length_drop, HX.out]; omega) (fun z hz => HL.out z (List.mem_of_mem_drop (List.mem_of_mem_take hz))) (by omega)
      (cells_drop (m := m) (q := q) (by omega) HC.out)
    rw [hq] at K1
    have H1 := hid K1
    clear K1 hq
    rcases hor with ⟨he, hv⟩ | ⟨e, he, hv, hw⟩
    · rw [he] at K2
      have H2 := hid K2
      clear K2 he
      have HV : Hid (scAt xs m = (m : Int) + q + 1) := hv
      clear hv
      go_wp2_with fail
      refine H1.out.mono ?_
      rintro e w' ⟨rfl, rfl⟩
      go_wp2_with fail
      refine H2.out.mono ?_
      rintro e w' ⟨rfl, rfl⟩
      go_wp2
      go_ret
      exact ⟨ret_int (by rw [← HS.out, HV.out]), rfl⟩
    · rw [he] at K2
      have H2 := hid K2
      clear K2 he
      have HV : Hid (scAt xs (m + e + 2) = scAt xs m) := hw
      clear hw
      go_wp2_with fail
      refine H1.out.mono ?_
      rintro e1 w' ⟨rfl, rfl⟩
      go_wp2_with fail
      refine H2.out.mono ?_
      rintro e2 w' ⟨rfl, rfl⟩
      go_wp2
      have hge := scAt_ge xs (m + e + 2) (by rw [HV.out, HS.out]; exact HR.out)
      rw [HX.out] at hge
      go_round
      case rel => exact ⟨m + e + 2, hge, by go_num, by rw [HV.out]; exact HS.out⟩
      case measure => simp [intOf]; omega

set_option maxHeartbeats 400000 in
theorem zzStringEnd_any (b off n cap : Nat) (xs : List Int) (k : Nat) (w : World) (hx : xs.length = n) (hn : n ≤ 1048576) (hcap : n ≤ cap) (hcm : cap ≤ maxLen) (hr : 0 ≤ scAt xs (k + 1))
    (hl : ∀ z ∈ xs, 0 ≤ z ∧ z ≤ 255)
    (hc : ∀ i, i < n → w.cell? ⟨b, off + i, none⟩ = some (.int .u8 (xs.getD i 0))) :
    Calls Try.prog 19 #[.slice (some ⟨b, off, none⟩) n cap, .int .i64 k] w fun e w' => e = .returned (.int .i64 (scAt xs (k + 1))) ∧ w' = w := by
  have K := hid (stringEnd_any b off n cap xs k w hx hn hcap hcm hr hl hc)
  clear hc hl hr hcm hcap hn hx
  go_enter Try.func19, Try.ntmps19
  go_wp2_with fail
  refine K.out.mono ?_
  rintro e w' ⟨rfl, rfl⟩
  go_wp2
  go_ret
  exact ⟨rfl, rfl⟩

theorem info5 : (Try.prog.info? 5).map (fun i => (i.zero, i.size, i.bytes)) = some (some (.int .u8 0), 1, 1) := by kernel_rfl

theorem eql_nil (a : Option Addr) (n c : Nat) (w : World) : (binOp .eql 22 (.slice a n c) (.slice none 0 0)).run Try.prog w = .ok (.bool a.isNone) w :=
  Lib.run_eql_slice_nil w 22 5 a n c 0 0 Try.underlying22

/-- jf1Clone AT nil. -/
theorem clone_nil (w : World) : Calls Try.prog 11 #[.slice none 0 0] w fun e w' => e = .returned (.slice none 0 0) ∧ w' = w := by
  have hq := eql_nil none 0 0
  simp only [Option.isNone_none] at hq
  go_enter Try.func11, Try.ntmps11
  go_wp2
  go_ret
  exact ⟨rfl, rfl⟩

theorem copy_made (a : Addr) (n cap : Nat) (xs : List Int) (w w1 : World) (hsz : (Try.prog.info? 5).map (·.size) = some 1) (hx : xs.length = n)
    (hc : ∀ i, i < n → w.cell? (a.add i) = some (.int .u8 (xs.getD i 0)))
    (hown : w1.ownsRow w.heap.size 5 1 (.slice (some ⟨w.heap.size, 0, none⟩) n n) n (madeCells #[Value.int .u8 0] n).toList) (hgrow : w.grownBy w1 none) :
    ∃ w2, (Builtin.copy_ #[22, 22] 3 #[.slice (some ⟨w.heap.size, 0, none⟩) n n, .slice (some a) n cap]).run Try.prog w1 = .ok (.int .i64 n) w2 ∧
      w2.heap[w.heap.size]? = some (.cells (xs.map (Value.int .u8)).toArray 5 (0, 0)) ∧ Below w.heap.size w w2 := by
  obtain ⟨_, h2⟩ := hown
  rcases h2 with ⟨h2, _⟩ | ⟨g, cap', cur, hv, hg, hh, _, _, hcs, _⟩
  · simp at h2
  · simp at hv
    obtain ⟨rfl, rfl⟩ := hv
    have hcl : (xs.map (Value.int .u8)).length = n := by simp [hx]
    have hr := run_copy_row (P := Try.prog) w1 22 22 3 5 w.heap.size 0 n n a n cap cur 5 (xs.map (Value.int .u8)) Try.underlying22 hsz hh (by rw [hcl]; simp)
      (fun j v hj => by
        rw [List.getElem?_map] at hj
        have hjl : j < xs.length := by
          apply Classical.byContradiction; intro hn; simp [List.getElem?_eq_none (by omega : xs.length ≤ j)] at hj
        refine hgrow.cell (row := none) ?_ (by simp)
        rw [hc j (by omega)]
        simp [hjl] at hj
        simp [List.getD, hjl, hj])
      (by rw [hcl, hcs]; omega)
      (fun v hv => by simp at hv; obtain ⟨z, _, rfl⟩ := hv; rfl)
    refine ⟨_, by rw [hr, hcl]; rfl, ?_, ?_⟩
    · have e : cur.toList.take 0 ++ xs.map (Value.int .u8) ++ cur.toList.drop (0 + n) = xs.map (Value.int .u8) := by
        rw [List.drop_eq_nil_of_le (by simp [hcs])]; simp
      rw [e]
      exact setRow_heap w1 _ _ _ 5 _ hh
    · exact below_setRow ((Below.refl _ w).grown hgrow (Nat.le_refl _) (by simp)) (Nat.le_refl _) _

set_option maxHeartbeats 800000 in
/-- jf1Clone AT WHATEVER IS NOT nil: a new row with the same numbers. -/
theorem clone_any (a : Addr) (n cap : Nat) (xs : List Int) (w : World) (hx : xs.length = n) (hn : n ≤ 1048576)
    (hc : ∀ i, i < n → w.cell? (a.add i) = some (.int .u8 (xs.getD i 0))) :
    Calls Try.prog 11 #[.slice (some a) n cap] w fun e w' => e = .returned (.slice (some ⟨w.heap.size, 0, none⟩) n n) ∧
      w'.heap[w.heap.size]? = some (.cells (xs.map (Value.int .u8)).toArray 5 (0, 0)) ∧ Below w.heap.size w w' := by
  obtain ⟨i0, hi, hz0, hz1, hz2⟩ := info_parts info5
  have HX : Hid (xs.length = n) := hx
  have HC : Hid (∀ i, i < n → w.cell? (a.add i) = some (.int .u8 (xs.getD i 0))) := hc
  clear hx hc
  have hq := eql_nil (some a) n cap
  simp only [Option.isNone_some] at hq
  go_enter Try.func11, Try.ntmps11
  go_wp2_with (at_make; refine wpList_make_full _ rfl _ _ 22 rfl w.heap.size 5 i0 (.int .u8 0) 1 Try.underlying22 hi hz0 hz1 .i64 .i64 (n : Int) (n : Int) n rfl rfl rfl rfl ?b2 ?b3 ?b4 ?_)
  case b2 => rw [hz2]; omega
  case b3 => unfold maxLen; omega
  case b4 => exact Nat.le_refl _
  intro w1 hown hgrow
  obtain ⟨w2, hcopy, hrow, hbel⟩ := copy_made a n cap xs w w1 (hz1 ▸ hi ▸ rfl) HX.out HC.out hown hgrow
  have HROW := hid hrow
  clear hown hgrow hrow
  go_wp2
  go_ret
  exact ⟨rfl, HROW.out, hbel⟩

end Go.Proofs.Qxb6601636a.J
