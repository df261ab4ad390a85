/-
  THE WALK of strconv.ParseUint(s, 10, 63): a row of digits below 2^63; a text that begins with a minus.
-/
import Derived.Test.Qxb6602457aDoorNum
import Derived.Lib.ConvBytes
import Derived.Lib.AtoiAllMem
import Derived.Laws.Strings3
import Derived.Laws.Closers25
import Derived.Laws.Closers25b
import Derived.BigCall
import Derived.BigGuard
namespace Go.Proofs.Qxb6602457aDoor.V
open Go.RowKit
set_option linter.unusedVariables false

/-- What a row of digits spells. -/
def num (l : List UInt8) : Nat := l.foldl (fun a c => a * 10 + (c.toNat - 48)) 0
theorem num_snoc (l : List UInt8) (c : UInt8) : num (l ++ [c]) = num l * 10 + (c.toNat - 48) := by simp [num, List.foldl_append]
theorem fold_ge (m : List UInt8) : ∀ a : Nat, a ≤ m.foldl (fun a c => a * 10 + (c.toNat - 48)) a := by
  induction m with
  | nil => intro a; exact Nat.le_refl _
  | cons c m ih => intro a; rw [List.foldl_cons]; exact Nat.le_trans (by omega) (ih _)
theorem num_ge (l : List UInt8) (m : List UInt8) : num l ≤ num (l ++ m) := by
  unfold num
  rw [List.foldl_append]
  exact fold_ge m _
theorem num_dec (u : Nat) : num (Lib.decDigits u) = u := by
  induction u using Nat.strongRecOn with
  | _ u ih =>
    by_cases h : u < 10
    · rw [Lib.decDigits_one h]
      simp only [num, List.foldl_cons, List.foldl_nil, UInt8.toNat_ofNat']
      omega
    · rw [dec_big h, num_snoc, ih (u / 10) (by omega)]
      simp only [UInt8.toNat_ofNat']
      omega

set_option maxHeartbeats 32000000 in
set_option maxRecDepth 100000 in
/-- internal/strconv.ParseUint(t, 10, 63), t a row of digits below 2^63. -/
theorem iparse_ok (t : ByteArray) (hne : t.size ≠ 0) (hmax : t.size ≤ 1000) (hdig : ∀ c ∈ t.data.toList, 48 ≤ c.toNat ∧ c.toNat ≤ 57) (u : Nat) (hu : num t.data.toList = u) (hlt : u < 9223372036854775808) (w : World) :
    Calls Tryd.prog 17 #[.string t, .int .i64 10, .int .i64 63] w fun e w' => e = .returned (.tuple #[.int .u64 u, .nilIface]) ∧ w' = Lib.bytesWorld w 5 t := by
  have hemp : t.toList.isEmpty = false := by
    rw [← decide_eq_emptyBytes]
    exact decide_eq_false (fun h => hne (by rw [h]; rfl))
  have hcv := Lib.run_convert_string_bytes (P := Tryd.prog) w 9 40 5 t (u := .string) Tryd.underlying9 Tryd.underlying40 Tryd.underlying5
  have hB : ∀ j, j < t.size → (Lib.bytesWorld w 5 t).cell? ⟨w.heap.size, j, none⟩ = some (.int .u8 (t.data.toList.getD j 0).toNat) := fun j hj => Lib.bytesWorld_cell w 5 t j hj
  obtain ⟨W1, hW1⟩ : ∃ W1, W1 = Lib.bytesWorld w 5 t := ⟨_, rfl⟩
  rw [← hW1] at hcv hB ⊢
  clear hW1
  obtain ⟨bs, hL⟩ : ∃ bs, bs = t.data.toList := ⟨_, rfl⟩
  have hLn : bs.length = t.size := by rw [hL, Lib.size_eq]
  rw [← hL] at hB hdig hu
  clear hL
  have HDG := hid hdig
  have HU := hid hu
  have HLT := hid hlt
  have HBB := hid hB
  clear hdig hu hlt hB
  have hmv : IntKind.u64.wrap (IntKind.u64.wrap 9223372036854775808 - 1) = 9223372036854775807 := by
    rw [IntKind.wrap_u64, IntKind.wrap_u64]
    decide
  go_enter Tryd.func17, Tryd.ntmps17
  go_wp2
  go_loop [12, 13, 101] (fun vu vn vi => ∃ (k : Nat) (a : Int), vu = .bool false ∧ vn = .int .u64 a ∧ vi = .int .i64 k ∧ k ≤ t.size ∧ Hid (a = (num (bs.take k) : Int)))
    (fun _ _ vi => t.size - (intOf vi).toNat)
  case atStart => exact ⟨0, 0, rfl, rfl, rfl, by omega, rfl⟩
  case round =>
    obtain ⟨k, a, rfl, rfl, rfl, hk, hh⟩ := hrel
    have a0 : 0 ≤ a := by rw [hh.out]; omega
    by_cases hkn : k < t.size
    · have hkb : k < bs.length := by omega
      have hc := HBB.out k hkn
      have hget : bs.getD k 0 = bs[k]'hkb := by simp [List.getD, List.getElem?_eq_getElem hkb]
      rw [hget] at hc
      have hd := HDG.out _ (List.getElem_mem hkb)
      have hstep : num (bs.take (k + 1)) = num (bs.take k) * 10 + ((bs[k]'hkb).toNat - 48) := by
        rw [List.take_succ_eq_append_getElem hkb, num_snoc]
      have hle : num (bs.take (k + 1)) ≤ u := by
        rw [← HU.out]
        have := num_ge (bs.take (k + 1)) (bs.drop (k + 1))
        rwa [List.take_append_drop] at this
      generalize bs[k]'hkb = c at hc hd hstep
      obtain ⟨hd0, hd1⟩ := hd
      have hlt := HLT.out
      have ha := hh.out
      have icut : a < 1844674407370955162 := by omega
      have iov : a * 10 + ((c.toNat : Int) - 48) < 9223372036854775808 := by omega
      have HN : Hid (a * 10 + ((c.toNat : Int) - 48) = (num (bs.take (k + 1)) : Int)) := by unfold Hid; omega
      have hc256 : c.toNat < 256 := c.toNat_lt
      clear hget hstep hle hlt ha hh
      go_wp2
      go_round
      case rel => exact ⟨k + 1, a * 10 + ((c.toNat : Int) - 48), rfl, (by first | rfl | (congr 1; omega)), (by first | rfl | (congr 1; omega)), by omega, HN⟩
      case measure => simp [intOf]; omega
    · have hkk : k = t.size := by omega
      subst hkk
      have hF : bs.take t.size = bs := List.take_of_length_le (by omega)
      have ha := hh.out
      rw [hF, HU.out] at ha
      subst ha
      clear hh hF a0
      go_wp2
      go_ret2
      exact ⟨rfl, rfl⟩

end Go.Proofs.Qxb6602457aDoor.V
