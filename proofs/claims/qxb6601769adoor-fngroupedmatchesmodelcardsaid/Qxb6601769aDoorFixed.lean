/-
  THE WALKS of formatFixed at two places, (Amount).String.
-/
import Derived.Test.Qxb6601769aDoorRoom
import Derived.Laws.IdiomStrings
namespace Go.Proofs.Qxb6601769aDoor.M
open Go.RowKit
set_option linter.unusedVariables false

theorem wrapneg (m : Nat) (hm2 : m ≤ 9223372036854775808) (hm : 1 ≤ m) : IntKind.u64.wrap (-IntKind.u64.wrap (-(m : Int))) = (m : Int) := by
  simp only [IntKind.wrap_u64]; omega
theorem wrappos (m : Nat) (hm2 : m ≤ 9223372036854775808) : IntKind.u64.wrap ((m : Int)) = (m : Int) := by
  simp only [IntKind.wrap_u64]; omega

def d1 (m : Nat) : UInt8 := UInt8.ofNat (48 + m % 100 / 10)
def d2 (m : Nat) : UInt8 := UInt8.ofNat (48 + m % 10)
def sgn (neg : Bool) : List UInt8 := if neg = true then [45] else []
/-- What formatFixed gives at two places: the sign, the whole part, the dot, two digits. -/
def fx (neg : Bool) (m : Nat) : List UInt8 := sgn neg ++ Lib.decDigits (m / 100) ++ [46] ++ [d1 m] ++ [d2 m]

theorem d1_val (m : Nat) : ((d1 m).toNat : Int) = 48 + ((m : Int) % 100) / 10 := by
  unfold d1; simp only [UInt8.toNat_ofNat']; omega
theorem d2_val (m : Nat) : ((d2 m).toNat : Int) = 48 + (m : Int) % 10 := by
  unfold d2; simp only [UInt8.toNat_ofNat']; omega

def zeros32 : Array Value := #[Value.int .u8 0, Value.int .u8 0, Value.int .u8 0, Value.int .u8 0, Value.int .u8 0, Value.int .u8 0, Value.int .u8 0, Value.int .u8 0, Value.int .u8 0, Value.int .u8 0, Value.int .u8 0, Value.int .u8 0, Value.int .u8 0, Value.int .u8 0, Value.int .u8 0, Value.int .u8 0, Value.int .u8 0, Value.int .u8 0, Value.int .u8 0, Value.int .u8 0, Value.int .u8 0, Value.int .u8 0, Value.int .u8 0, Value.int .u8 0, Value.int .u8 0, Value.int .u8 0, Value.int .u8 0, Value.int .u8 0, Value.int .u8 0, Value.int .u8 0, Value.int .u8 0, Value.int .u8 0]

theorem ret_str {a b : ByteArray} (h : a = b) : Ending.returned (.string a) = .returned (.string b) := by rw [h]

set_option maxHeartbeats 4000000 in
theorem fixed_any (neg : Bool) (m : Nat) (n : Int) (hn : n = if neg = true then -(m : Int) else (m : Int)) (hm : neg = true → 1 ≤ m) (hm2 : neg = true → m ≤ 9223372036854775808) (hm3 : neg = false → m < 9223372036854775808) (w : World)
    (htab : Lib.TabIs Tryd.prog w pn .u64 Lib.pow10Tab) :
    Calls Tryd.prog 21 #[.int .i64 n, .int .i64 2] w fun e w' => e = .returned (.string ⟨(fx neg m).toArray⟩) ∧ Kept w.heap.size w w' := by
  have HTAB := hid htab
  clear htab
  have hbig : m ≤ 9223372036854775808 := by
    cases neg
    · have := hm3 rfl; omega
    · exact hm2 rfl
  have hdl : (Lib.decDigits (m / 100)).length ≤ 20 := by rw [Lib.decDigits_length]; exact nDigits20 _ (by omega)
  have HDL := hid hdl
  clear hdl
  cases neg with
  | true =>
    have h1 := hm rfl
    clear hm hm2 hm3
    simp only [if_true] at hn
    subst hn
    have hw1 := wrapneg m hbig h1
    go_enter Tryd.func21, Tryd.ntmps21
    go_wp2
    go_loop [5, 11] (fun u k => (k = .int .i64 0 ∧ u = .int .u64 1) ∨ (k = .int .i64 1 ∧ u = .int .u64 10) ∨ (k = .int .i64 2 ∧ u = .int .u64 100)) (fun _ k => 2 - (intOf k).toNat)
    case atStart => exact .inl ⟨rfl, rfl⟩
    case round =>
      rcases hrel with ⟨rfl, rfl⟩ | ⟨rfl, rfl⟩ | ⟨rfl, rfl⟩
      · go_wp2_with fail
        go_round
        case rel => exact .inr (.inl ⟨rfl, rfl⟩)
        case measure => simp [intOf]
      · go_wp2_with fail
        go_round
        case rel => exact .inr (.inr ⟨rfl, rfl⟩)
        case measure => simp [intOf]
      · go_wp2_with (at_builtin; refine room1 45 rfl rfl (.tmp 21) (.tmp 22) rfl rfl (Room.start w zeros32 rfl) rfl (by simp) (by simp) ?_; intro v1 w1 hr1; have HR1 := hid hr1; clear hr1)
        have hk1 : Kept w.heap.size w w1 := (Kept.of_below ((Below.refl _ _).alloc (Nat.le_refl _) _)).trans HR1.out.kept
        have HK1 := hid hk1
        clear hk1
        have KA := appendUint_pub (m / 100) (by omega) HR1.out (by simp) (tab_kept HTAB.out HK1.out)
        rw [show (((m / 100 : Nat)) : Int) = (m : Int) / 100 by omega] at KA
        refine KA.mono ?_
        clear KA
        rintro e w2 ⟨v2, rfl, hr2⟩
        have HR2 := hid hr2
        clear hr2
        go_wp2_with (at_builtin; refine room1 46 rfl rfl (.tmp 30) (.tmp 31) rfl rfl HR2.out rfl rfl (by have := HDL.out; simp; omega) ?_; intro v3 w3 hr3; have HR3 := hid hr3; clear hr3)
        have hll : (([] ++ [(45 : UInt8)]) ++ Lib.decDigits (m / 100) ++ [46]).length ≤ 22 := by have := HDL.out; simp; omega
        generalize hL : ([] ++ [(45 : UInt8)]) ++ Lib.decDigits (m / 100) ++ [46] = L at HR3 hll
        have HL := hid hL.symm
        clear hL HR1 HR2 HK1 HTAB HDL
        go_loopw [5, 7] (fun u v wr => (u = .int .u64 10 ∧ Room (w.alloc (.cells zeros32 47)) w.heap.size wr v L) ∨ (u = .int .u64 1 ∧ Room (w.alloc (.cells zeros32 47)) w.heap.size wr v (L ++ [d1 m])) ∨ (u = .int .u64 0 ∧ Room (w.alloc (.cells zeros32 47)) w.heap.size wr v (L ++ [d1 m] ++ [d2 m]))) (fun u _ _ => (intOf u).toNat)
        case atStart => exact .inl ⟨rfl, HR3.out⟩
        case round =>
          clear HR3
          rcases hrel with ⟨rfl, hr⟩ | ⟨rfl, hr⟩ | ⟨rfl, hr⟩
          · have HR := hid hr
            clear hr
            go_wp2_with (at_builtin; refine room1 (d1 m) (by rw [d1_val]; omega) rfl (.tmp 42) (.tmp 49) rfl rfl HR.out rfl rfl (by omega) ?_; intro v5 w5 hr5; have HR5 := hid hr5; clear hr5)
            go_roundw
            case rel => exact .inr (.inl ⟨rfl, HR5.out⟩)
            case measure => simp [intOf]
          · have HR := hid hr
            clear hr
            go_wp2_with (at_builtin; refine room1 (d2 m) (by rw [d2_val]) rfl (.tmp 42) (.tmp 49) rfl rfl HR.out rfl rfl (by simp; omega) ?_; intro v5 w5 hr5; have HR5 := hid hr5; clear hr5)
            go_roundw
            case rel => exact .inr (.inr ⟨rfl, HR5.out⟩)
            case measure => simp [intOf]
          · generalize hL5 : L ++ [d1 m] ++ [d2 m] = L5 at hr
            have HL5 := hid hL5.symm
            clear hL5
            obtain ⟨hv, hcells⟩ := hr.value
            subst hv
            have hk : Kept w.heap.size w wr := (Kept.of_below ((Below.refl _ _).alloc (Nat.le_refl _) _)).trans hr.kept
            have HK := hid hk
            have hcv := run_convert_bytes_back (P := Tryd.prog) wr 26 9 5 ⟨w.heap.size, 0, none⟩ 32 L5 Tryd.underlying26 Tryd.underlying5 Tryd.underlying9 (fun j hj => by rw [Lib.add_plain, Nat.zero_add]; exact hcells j hj)
            clear hr hcells hk
            go_wp2_with fail
            go_ret
            exact ⟨ret_str (by rw [HL5.out, HL.out]; simp [fx, sgn]), HK.out⟩
  | false =>
    have h3 := hm3 rfl
    clear hm hm2 hm3
    simp only [Bool.false_eq_true, if_false] at hn
    subst hn
    have hw1 := wrappos m hbig
    go_enter Tryd.func21, Tryd.ntmps21
    go_wp2
    go_loop [5, 11] (fun u k => (k = .int .i64 0 ∧ u = .int .u64 1) ∨ (k = .int .i64 1 ∧ u = .int .u64 10) ∨ (k = .int .i64 2 ∧ u = .int .u64 100)) (fun _ k => 2 - (intOf k).toNat)
    case atStart => exact .inl ⟨rfl, rfl⟩
    case round =>
      rcases hrel with ⟨rfl, rfl⟩ | ⟨rfl, rfl⟩ | ⟨rfl, rfl⟩
      · go_wp2_with fail
        go_round
        case rel => exact .inr (.inl ⟨rfl, rfl⟩)
        case measure => simp [intOf]
      · go_wp2_with fail
        go_round
        case rel => exact .inr (.inr ⟨rfl, rfl⟩)
        case measure => simp [intOf]
      · go_wp2_with fail
        have HR1 := hid (Room.start w zeros32 rfl)
        have HK1 : Hid (Kept w.heap.size w (w.alloc (.cells zeros32 47))) := Kept.of_below ((Below.refl _ _).alloc (Nat.le_refl _) _)
        have KA := appendUint_pub (m / 100) (by omega) HR1.out (by simp) (tab_kept HTAB.out HK1.out)
        rw [show (((m / 100 : Nat)) : Int) = (m : Int) / 100 by omega] at KA
        refine KA.mono ?_
        clear KA
        rintro e w2 ⟨v2, rfl, hr2⟩
        have HR2 := hid hr2
        clear hr2
        go_wp2_with (at_builtin; refine room1 46 rfl rfl (.tmp 30) (.tmp 31) rfl rfl HR2.out rfl rfl (by have := HDL.out; simp; omega) ?_; intro v3 w3 hr3; have HR3 := hid hr3; clear hr3)
        have hll : (([] : List UInt8) ++ Lib.decDigits (m / 100) ++ [46]).length ≤ 22 := by have := HDL.out; simp; omega
        generalize hL : ([] : List UInt8) ++ Lib.decDigits (m / 100) ++ [46] = L at HR3 hll
        have HL := hid hL.symm
        clear hL HR1 HR2 HK1 HTAB HDL
        go_loopw [5, 7] (fun u v wr => (u = .int .u64 10 ∧ Room (w.alloc (.cells zeros32 47)) w.heap.size wr v L) ∨ (u = .int .u64 1 ∧ Room (w.alloc (.cells zeros32 47)) w.heap.size wr v (L ++ [d1 m])) ∨ (u = .int .u64 0 ∧ Room (w.alloc (.cells zeros32 47)) w.heap.size wr v (L ++ [d1 m] ++ [d2 m]))) (fun u _ _ => (intOf u).toNat)
        case atStart => exact .inl ⟨rfl, HR3.out⟩
        case round =>
          clear HR3
          rcases hrel with ⟨rfl, hr⟩ | ⟨rfl, hr⟩ | ⟨rfl, hr⟩
          · have HR := hid hr
            clear hr
            go_wp2_with (at_builtin; refine room1 (d1 m) (by rw [d1_val]; omega) rfl (.tmp 42) (.tmp 49) rfl rfl HR.out rfl rfl (by omega) ?_; intro v5 w5 hr5; have HR5 := hid hr5; clear hr5)
            go_roundw
            case rel => exact .inr (.inl ⟨rfl, HR5.out⟩)
            case measure => simp [intOf]
          · have HR := hid hr
            clear hr
            go_wp2_with (at_builtin; refine room1 (d2 m) (by rw [d2_val]) rfl (.tmp 42) (.tmp 49) rfl rfl HR.out rfl rfl (by simp; omega) ?_; intro v5 w5 hr5; have HR5 := hid hr5; clear hr5)
            go_roundw
            case rel => exact .inr (.inr ⟨rfl, HR5.out⟩)
            case measure => simp [intOf]
          · generalize hL5 : L ++ [d1 m] ++ [d2 m] = L5 at hr
            have HL5 := hid hL5.symm
            clear hL5
            obtain ⟨hv, hcells⟩ := hr.value
            subst hv
            have hk : Kept w.heap.size w wr := (Kept.of_below ((Below.refl _ _).alloc (Nat.le_refl _) _)).trans hr.kept
            have HK := hid hk
            have hcv := run_convert_bytes_back (P := Tryd.prog) wr 26 9 5 ⟨w.heap.size, 0, none⟩ 32 L5 Tryd.underlying26 Tryd.underlying5 Tryd.underlying9 (fun j hj => by rw [Lib.add_plain, Nat.zero_add]; exact hcells j hj)
            clear hr hcells hk
            go_wp2_with fail
            go_ret
            exact ⟨ret_str (by rw [HL5.out, HL.out]; simp [fx, sgn]), HK.out⟩

set_option maxHeartbeats 400000 in
theorem string_any (neg : Bool) (m : Nat) (n : Int) (hn : n = if neg = true then -(m : Int) else (m : Int)) (hm : neg = true → 1 ≤ m) (hm2 : neg = true → m ≤ 9223372036854775808) (hm3 : neg = false → m < 9223372036854775808) (w : World)
    (htab : Lib.TabIs Tryd.prog w pn .u64 Lib.pow10Tab) :
    Calls Tryd.prog 10 #[.int .i64 n] w fun e w' => e = .returned (.string ⟨(fx neg m).toArray⟩) ∧ Kept w.heap.size w w' := by
  have K := hid (fixed_any neg m n hn hm hm2 hm3 w htab)
  clear hn hm hm2 hm3 htab
  go_enter Tryd.func10, Tryd.ntmps10
  go_wp2_with fail
  refine K.out.mono ?_
  rintro e w' ⟨rfl, hk⟩
  have HK := hid hk
  clear hk
  go_wp2_with fail
  go_ret
  exact ⟨rfl, HK.out⟩

end Go.Proofs.Qxb6601769aDoor.M
