/-
  THE WALKS of zzUtoa, zzSignedText.
-/
import Derived.Test.Qxb6602457aDoorShelf
import Derived.Lib.ItoaNum
import Derived.Lib.ItoaMem
import Derived.Laws.Rows
import Derived.Laws.IdiomStrings
import Derived.WalkKit
import Derived.Below
namespace Go.Proofs.Qxb6602457aDoor.V
open Go.RowKit
set_option linter.unusedVariables false

theorem dec_big {u : Nat} (h : ¬ u < 10) : Lib.decDigits u = Lib.decDigits (u / 10) ++ [UInt8.ofNat (48 + u % 10)] := by rw [Lib.decDigits, dif_neg h]

/-- itoaU64's loop: what is left, and the digits that stand. -/
def Fwd (u0 u : Nat) (R : List UInt8) : Prop := (0 < u → Lib.decDigits u ++ R = Lib.decDigits u0) ∧ (u = 0 → R = Lib.decDigits u0)
theorem fwd_step (u0 u : Nat) (R : List UInt8) (h : Fwd u0 u R) (hu : 0 < u) : Fwd u0 (u / 10) (UInt8.ofNat (48 + u % 10) :: R) := by
  have hm := h.1 hu
  constructor
  · intro h1
    rw [← hm, dec_big (u := u) (by omega)]
    simp
  · intro h1
    rw [← hm, Lib.decDigits_one (show u < 10 by omega)]
    simp [Nat.mod_eq_of_lt (show u < 10 by omega)]

theorem dec_digit (u : Nat) : ∀ c ∈ Lib.decDigits u, 48 ≤ c.toNat ∧ c.toNat ≤ 57 := by
  induction u using Nat.strongRecOn with
  | _ u ih =>
    intro c hc
    rw [Lib.decDigits] at hc
    split at hc
    · rw [List.mem_singleton] at hc; subst hc; simp only [UInt8.toNat_ofNat']; omega
    · rename_i h
      rw [List.mem_append] at hc
      rcases hc with hc | hc
      · exact ih (u / 10) (by omega) c hc
      · rw [List.mem_singleton] at hc; subst hc; simp only [UInt8.toNat_ofNat']; omega
theorem dec_ne_nil (u : Nat) : Lib.decDigits u ≠ [] := by
  by_cases h : u < 10
  · rw [Lib.decDigits_one h]; simp
  · rw [dec_big h]; simp

/-- The buffer while it fills from the end. -/
def bufN (p : Nat) (R : List UInt8) : Array Value := (Lib.byteCells (List.replicate p 0 ++ R)).toArray
theorem bufN_size (p : Nat) (R : List UInt8) : (bufN p R).size = p + R.length := by simp [bufN, Lib.byteCells]
theorem bufN_at (p : Nat) (R : List UInt8) : (bufN (p + 1) R)[p]? = some (.int .u8 0) := by
  unfold bufN Lib.byteCells
  simp only [List.getElem?_toArray, List.getElem?_map]
  rw [List.getElem?_append_left (by simp), List.getElem?_replicate, if_pos (by omega)]
  rfl
theorem bufN_set (p : Nat) (R : List UInt8) (c : UInt8) : (bufN (p + 1) R).setIfInBounds p (.int .u8 (c.toNat : Int)) = bufN p (c :: R) := by
  unfold bufN Lib.byteCells
  rw [List.setIfInBounds_toArray, List.replicate_succ', List.append_assoc, List.map_append, List.set_append_right _ _ (by simp)]
  simp
theorem bufN_get (p : Nat) (R : List UInt8) (j : Nat) (h : j < R.length) : (bufN p R)[p + j]? = some (.int .u8 (R[j].toNat : Int)) := by
  unfold bufN Lib.byteCells
  simp only [List.getElem?_toArray, List.getElem?_map]
  rw [List.getElem?_append_right (by simp)]
  simp [h]

theorem digit_val (y : Nat) : ((UInt8.ofNat (48 + y % 10)).toNat : Int) = 48 + (y : Int) % 10 := by simp only [UInt8.toNat_ofNat']; omega

set_option maxHeartbeats 2000000 in
theorem utoa_any (u : Nat) (hu : u < 18446744073709551616) (w : World) :
    Calls Tryd.prog 11 #[.int .u64 u] w fun e w' => e = .returned (.string ⟨(Lib.decDigits u).toArray⟩) ∧ Below w.heap.size w w' := by
  by_cases h0 : u = 0
  · subst h0
    have hD : Lib.decDigits 0 = [48] := by rw [Lib.decDigits_one (by omega)]; rfl
    rw [hD]
    clear hD
    go_enter Tryd.func11, Tryd.ntmps11
    go_wp2_with fail
    go_ret
    exact ⟨rfl, Below.refl _ _⟩
  · have e0 : ((u : Int) == 0) = false := by simp; omega
    go_enter Tryd.func11, Tryd.ntmps11
    go_wp2_with fail
    go_loopw [0, 4] (fun x v wr => ∃ (y : Nat) (R : List UInt8) (p : Nat), x = .int .u64 y ∧ v = .int .i64 p ∧ y ≤ u ∧ y < 10 ^ p ∧ p + R.length = 20 ∧ Fwd u y R ∧ wr.heap[w.heap.size]? = some (.cells (bufN p R) 39 (0, 0)) ∧ Below w.heap.size w wr) (fun x _ _ => (intOf x).toNat)
    case atStart => exact ⟨u, [], 20, rfl, rfl, Nat.le_refl _, by omega, rfl, ⟨fun _ => by simp, fun h => absurd h h0⟩, by show (w.heap.push _)[w.heap.size]? = _; simp; rfl, (Below.refl _ _).alloc (Nat.le_refl _) _⟩
    case round =>
      obtain ⟨y, R, p, rfl, rfl, hyu, hyp, hpR, hfwd, hrow, hbel⟩ := hrel
      have HF := hid hfwd
      have HYP := hid hyp
      have HB := hid hbel
      have HROW := hid hrow
      clear hfwd hyp hbel hrow
      by_cases hy : 0 < y
      · have hp0 : p ≠ 0 := by intro h; subst h; have := HYP.out; simp at this; omega
        obtain ⟨q, rfl⟩ : ∃ q, p = q + 1 := ⟨p - 1, by omega⟩
        have hv := digit_val y
        have hcell : wr.cell? ⟨w.heap.size, q, none⟩ = some (.int .u8 0) := by rw [cell_of_row _ _ _ _ _ _ HROW.out]; exact bufN_at q R
        have hfz : wr.frozen? ⟨w.heap.size, q, none⟩ = false := frozen_of_row _ _ _ _ _ HROW.out
        have hset := heap_setCell_same wr w.heap.size q _ 39 (.int .u8 ((UInt8.ofNat (48 + y % 10)).toNat : Int)) HROW.out
        rw [bufN_set, hv] at hset
        have HSET := hid hset
        clear hset hv
        go_wp2_with fail
        go_roundw
        case rel =>
          refine ⟨y / 10, UInt8.ofNat (48 + y % 10) :: R, q, by go_num, by go_num, by omega, ?_, by simp; omega, fwd_step u y R HF.out hy, HSET.out, HB.out.setCell (Nat.le_refl _) _⟩
          have := HYP.out
          rw [Nat.pow_succ] at this
          omega
        case measure => simp [intOf]; omega
      · have hy0 : y = 0 := by omega
        subst hy0
        have hR : R = Lib.decDigits u := HF.out.2 rfl
        subst hR
        have hlen : (Lib.decDigits u).length = 20 - p := by omega
        have hcv := run_convert_bytes_back (P := Tryd.prog) wr 40 9 5 ⟨w.heap.size, p, none⟩ (20 - p) (Lib.decDigits u) Tryd.underlying40 Tryd.underlying5 Tryd.underlying9 (fun j hj => by rw [Lib.add_plain, cell_of_row _ _ _ _ _ _ HROW.out]; exact bufN_get p _ j hj)
        rw [hlen] at hcv
        have hne := List.length_pos_iff.2 (dec_ne_nil u)
        have hal : Tryd.prog.arrayLen 39 = 20 := by simp [Program.arrayLen, Tryd.underlying39]
        have hsl : (Instr.sliceAt 39 (.pointer (some ⟨w.heap.size, 0, none⟩)) (some (.int .i64 (p : Int))) none none).run Tryd.prog wr = .ok (.slice (some ⟨w.heap.size, p, none⟩) (20 - p) (20 - p)) wr := by
          rw [run_sliceAt_array_l wr 39 ⟨w.heap.size, 0, none⟩ (by simp [Program.arrayLen, Program.elem, Tryd.underlying39]) .i64 (p : Int) (by omega) (by rw [hal]; omega)]
          have he : Tryd.prog.elem 39 = 5 := by simp [Program.elem, Tryd.underlying39]
          rw [he, Tryd.sizeOf5, hal]
          have hp : ¬ (20 : Nat) = p := by omega
          simp [slicedAt, Result.andThen, hp, Lib.add_plain]
        clear hlen hal hne
        go_wp2_with fail
        go_ret
        exact ⟨rfl, HB.out⟩


theorem dec_len (k : Nat) : ∀ u, u < 10 ^ (k + 1) → (Lib.decDigits u).length ≤ k + 1 := by
  induction k with
  | zero => intro u h; rw [Lib.decDigits_one (by omega)]; simp
  | succ k ih =>
    intro u h
    by_cases hu : u < 10
    · rw [Lib.decDigits_one hu]; simp
    · rw [dec_big hu, List.length_append]
      have := ih (u / 10) (by rw [Nat.pow_succ] at h; omega)
      simp
      omega

/-- The text of a number. -/
def sgx (neg : Bool) (m : Nat) : List UInt8 := (if neg = true then [45] else []) ++ Lib.decDigits m

theorem signed_any (neg : Bool) (m : Nat) (n : Int) (hn : n = if neg = true then -(m : Int) else (m : Int)) (h1 : neg = true → 1 ≤ m ∧ m ≤ 9223372036854775808) (h2 : neg = false → m < 9223372036854775808) (w : World) :
    Calls Tryd.prog 8 #[.int .i64 n] w fun e w' => e = .returned (.string ⟨(sgx neg m).toArray⟩) ∧ Below w.heap.size w w' := by
  cases neg with
  | true =>
    obtain ⟨h3, h4⟩ := h1 rfl
    have KU := hid (utoa_any m (by omega))
    have hs : (⟨#[45]⟩ : ByteArray) ++ ⟨(Lib.decDigits m).toArray⟩ = ⟨(sgx true m).toArray⟩ := by
      apply ByteArray.ext
      simp [sgx]
    have HS := hid hs
    generalize (⟨(sgx true m).toArray⟩ : ByteArray) = G at HS
    have hl : (Lib.decDigits m).length ≤ 20 := dec_len 19 m (by omega)
    have hsz : (⟨(Lib.decDigits m).toArray⟩ : ByteArray).size ≤ 20 := by rw [Lib.size_eq]; simpa using hl
    generalize (⟨(Lib.decDigits m).toArray⟩ : ByteArray) = D at KU HS hsz
    simp at hn
    subst hn
    clear h1 h2 hs hl
    go_enter Tryd.func8, Tryd.ntmps8
    go_wp2_with fail
    refine (show Calls Tryd.prog 11 #[.int .u64 (-(-(m : Int) + 1) + 1)] w fun e w' => e = .returned (.string D) ∧ Below w.heap.size w w' by
      rw [show -(-(m : Int) + 1) + 1 = (m : Int) by omega]
      exact KU.out w).mono ?_
    rintro e w1 ⟨rfl, hb⟩
    have HB := hid hb
    clear hb KU
    go_wp2_with fail
    go_ret
    exact ⟨by rw [← HS.out]; rfl, HB.out⟩
  | false =>
    have h3 := h2 rfl
    have KU := hid (utoa_any m (by omega))
    simp at hn
    subst hn
    simp only [sgx]
    clear h1 h2
    go_enter Tryd.func8, Tryd.ntmps8
    go_wp2_with fail
    refine (KU.out _).mono ?_
    rintro e w1 ⟨rfl, hb⟩
    have HB := hid hb
    clear hb
    go_wp2_with fail
    go_ret
    exact ⟨rfl, HB.out⟩

end Go.Proofs.Qxb6602457aDoor.V
