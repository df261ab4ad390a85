/-
  THE WALKS of itoaU64, cutSign, withoutExponent.
-/
import Derived.Test.Qxb6601839aNum
import Derived.Lib.ItoaMem
namespace Go.Proofs.Qxb6601839a.E
open Go.RowKit
set_option linter.unusedVariables false

/-- The buffer while it fills from the end. -/
def bufN (p : Nat) (R : List UInt8) : Array Value := (Lib.byteCells (List.replicate p 0 ++ R)).toArray
theorem bufN_size (p : Nat) (R : List UInt8) : (bufN p R).size = p + R.length := by simp [bufN, Lib.byteCells]
theorem bufN_at (p : Nat) (R : List UInt8) : (bufN (p + 1) R)[p]? = some (.int .u8 0) := by
  unfold bufN Lib.byteCells
  simp only [List.getElem?_toArray, List.getElem?_map]
  rw [List.getElem?_append_left (by simp), List.getElem?_replicate, if_pos (by omega)]
  rfl
theorem bufN_set (p : Nat) (R : List UInt8) (c : UInt8) : (bufN (p + 1) R).setIfInBounds p (.int .u8 (c.toNat : Int)) = bufN p (c :: R) := by
  unfold bufN Lib.byteCells
  rw [List.setIfInBounds_toArray, List.replicate_succ', List.append_assoc, List.map_append, List.set_append_right _ _ (by simp)]
  simp
theorem bufN_get (p : Nat) (R : List UInt8) (j : Nat) (h : j < R.length) : (bufN p R)[p + j]? = some (.int .u8 (R[j].toNat : Int)) := by
  unfold bufN Lib.byteCells
  simp only [List.getElem?_toArray, List.getElem?_map]
  rw [List.getElem?_append_right (by simp)]
  simp [h]

theorem digit_val (y : Nat) : ((UInt8.ofNat (48 + y % 10)).toNat : Int) = 48 + (y : Int) % 10 := by simp only [UInt8.toNat_ofNat']; omega

set_option maxHeartbeats 2000000 in
theorem itoa_any (u : Nat) (hu : u < 18446744073709551616) (w : World) :
    Calls Try.prog 13 #[.int .u64 u] w fun e w' => e = .returned (.string ⟨(Lib.decDigits u).toArray⟩) ∧ Below w.heap.size w w' := by
  by_cases h0 : u = 0
  · subst h0
    have hD : Lib.decDigits 0 = [48] := by rw [Lib.decDigits_one (by omega)]; rfl
    rw [hD]
    clear hD
    go_enter Try.func13, Try.ntmps13
    go_wp2_with fail
    go_ret
    exact ⟨rfl, Below.refl _ _⟩
  · have e0 : ((u : Int) == 0) = false := by simp; omega
    go_enter Try.func13, Try.ntmps13
    go_wp2_with fail
    go_loopw [0, 4] (fun x v wr => ∃ (y : Nat) (R : List UInt8) (p : Nat), x = .int .u64 y ∧ v = .int .i64 p ∧ y ≤ u ∧ y < 10 ^ p ∧ p + R.length = 20 ∧ Fwd u y R ∧ wr.heap[w.heap.size]? = some (.cells (bufN p R) 32 (0, 0)) ∧ Below w.heap.size w wr) (fun x _ _ => (intOf x).toNat)
    case atStart => exact ⟨u, [], 20, rfl, rfl, Nat.le_refl _, by omega, rfl, ⟨fun _ => by simp, fun h => absurd h h0⟩, by show (w.heap.push _)[w.heap.size]? = _; simp; rfl, (Below.refl _ _).alloc (Nat.le_refl _) _⟩
    case round =>
      obtain ⟨y, R, p, rfl, rfl, hyu, hyp, hpR, hfwd, hrow, hbel⟩ := hrel
      have HF := hid hfwd
      have HYP := hid hyp
      have HB := hid hbel
      have HROW := hid hrow
      clear hfwd hyp hbel hrow
      by_cases hy : 0 < y
      · have hp0 : p ≠ 0 := by intro h; subst h; have := HYP.out; simp at this; omega
        obtain ⟨q, rfl⟩ : ∃ q, p = q + 1 := ⟨p - 1, by omega⟩
        have hv := digit_val y
        have hcell : wr.cell? ⟨w.heap.size, q, none⟩ = some (.int .u8 0) := by rw [cell_of_row _ _ _ _ _ _ HROW.out]; exact bufN_at q R
        have hfz : wr.frozen? ⟨w.heap.size, q, none⟩ = false := frozen_of_row _ _ _ _ _ HROW.out
        have hset := heap_setCell_same wr w.heap.size q _ 32 (.int .u8 ((UInt8.ofNat (48 + y % 10)).toNat : Int)) HROW.out
        rw [bufN_set, hv] at hset
        have HSET := hid hset
        clear hset hv
        go_wp2_with fail
        go_roundw
        case rel =>
          refine ⟨y / 10, UInt8.ofNat (48 + y % 10) :: R, q, by go_num, by go_num, by omega, ?_, by simp; omega, fwd_step u y R HF.out hy, HSET.out, HB.out.setCell (Nat.le_refl _) _⟩
          have := HYP.out
          rw [Nat.pow_succ] at this
          omega
        case measure => simp [intOf]; omega
      · have hy0 : y = 0 := by omega
        subst hy0
        have hR : R = Lib.decDigits u := HF.out.2 rfl
        subst hR
        have hlen : (Lib.decDigits u).length = 20 - p := by omega
        have hcv := run_convert_bytes_back (P := Try.prog) wr 33 9 5 ⟨w.heap.size, p, none⟩ (20 - p) (Lib.decDigits u) Try.underlying33 Try.underlying5 Try.underlying9 (fun j hj => by rw [Lib.add_plain, cell_of_row _ _ _ _ _ _ HROW.out]; exact bufN_get p _ j hj)
        rw [hlen] at hcv
        have hne := List.length_pos_iff.2 (dec_ne_nil u)
        have hal : Try.prog.arrayLen 32 = 20 := by simp [Program.arrayLen, Try.underlying32]
        have hsl : (Instr.sliceAt 32 (.pointer (some ⟨w.heap.size, 0, none⟩)) (some (.int .i64 (p : Int))) none none).run Try.prog wr = .ok (.slice (some ⟨w.heap.size, p, none⟩) (20 - p) (20 - p)) wr := by
          rw [run_sliceAt_array_l wr 32 ⟨w.heap.size, 0, none⟩ (by simp [Program.arrayLen, Program.elem, Try.underlying32]) .i64 (p : Int) (by omega) (by rw [hal]; omega)]
          have he : Try.prog.elem 32 = 5 := by simp [Program.elem, Try.underlying32]
          rw [he, Try.sizeOf5, hal]
          have hp : ¬ (20 : Nat) = p := by omega
          simp [slicedAt, Result.andThen, hp, Lib.add_plain]
        clear hlen hal hne
        go_wp2_with fail
        go_ret
        exact ⟨rfl, HB.out⟩

end Go.Proofs.Qxb6601839a.E
