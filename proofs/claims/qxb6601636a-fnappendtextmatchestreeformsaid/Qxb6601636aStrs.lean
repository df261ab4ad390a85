/-
  THE WALKS of jf1StrClose, bytes.IndexByte, stringEnd, ZZstringEnd, jf1Clone.
-/
import Derived.Test.Qxb6601636aRows
import Derived.Test.Qxb6601636aPlain
import Derived.WalkKit
import Derived.Below
import Derived.Laws.CopyOwn
import Derived.Shelf.Bytes.SlIndexAt
namespace Go.Proofs.Qxb6601636a.J
open Go.RowKit

theorem ret_int {k : IntKind} {a b : Int} (h : a = b) : Ending.returned (.int k a) = .returned (.int k b) := by rw [h]

set_option maxHeartbeats 400000 in
theorem strClose_any (b off n cap : Nat) (xs : List Int) (k : Nat) (w : World) (hx : xs.length = n) (hn : n ≤ 1048576) (hk : k ≤ n)
    (hc : ∀ i, i < n → w.cell? ⟨b, off + i, none⟩ = some (.int .u8 (xs.getD i 0))) :
    Calls Try.prog 18 #[.slice (some ⟨b, off, none⟩) n cap, .int .i64 k] w fun e w' => e = .returned (.int .i64 (scAt xs (k + 1))) ∧ w' = w := by
  have HX : Hid (xs.length = n) := hx
  clear hx
  go_enter Try.func18, Try.ntmps18
  go_wp2
  go_loop [5] (fun j => ∃ m : Nat, m ≤ n + 1 ∧ j = .int .i64 m ∧ scAt xs m = scAt xs (k + 1)) (fun j => n + 1 - (intOf j).toNat)
  case atStart => exact ⟨k + 1, by omega, by go_num, rfl⟩
  case round =>
    obtain ⟨m, hm, rfl, hs⟩ := hrel
    have HS : Hid (scAt xs m = scAt xs (k + 1)) := hs
    clear hs
    by_cases hlt : m < n
    · have hcm := hc m hlt
      obtain ⟨c, hcd⟩ : ∃ c, c = xs.getD m 0 := ⟨_, rfl⟩
      rw [← hcd] at hcm
      have HC : Hid (c = xs.getD m 0) := hcd
      clear hcd hc
      by_cases h1 : c = 92
      · have e1 : (c == 92) = true := by simpa using h1
        have H1 : Hid (c = 92) := h1
        clear h1
        go_wp2
        go_round
        case rel => exact ⟨m + 2, by omega, by go_num, by rw [scAt_92 xs m (by rw [HX.out]; exact hlt) (by rw [← HC.out]; exact H1.out)]; exact HS.out⟩
        case measure => simp [intOf]; omega
      · have e1 : (c == 92) = false := by simpa using h1
        by_cases h2 : c = 34
        · have e2 : (c == 34) = true := by simpa using h2
          have H2 : Hid (c = 34) := h2
          clear h1 h2
          go_wp2
          go_ret
          exact ⟨ret_int (by rw [← HS.out, scAt_34 xs m (by rw [HX.out]; exact hlt) (by rw [← HC.out]; exact H2.out)]), rfl⟩
        · have e2 : (c == 34) = false := by simpa using h2
          have H1 : Hid (c ≠ 92) := h1
          have H2 : Hid (c ≠ 34) := h2
          clear h1 h2
          go_wp2
          go_round
          case rel => exact ⟨m + 1, by omega, by go_num, by rw [scAt_other xs m (by rw [HX.out]; exact hlt) (by rw [← HC.out]; exact H1.out) (by rw [← HC.out]; exact H2.out)]; exact HS.out⟩
          case measure => simp [intOf]; omega
    · go_wp2
      go_ret
      exact ⟨ret_int (by rw [← HS.out, scAt_end xs m (by rw [HX.out]; omega)]), rfl⟩

set_option maxHeartbeats 400000 in
theorem indexByte_any (a : Addr) (n cap : Nat) (xs : List Int) (cv : Int) (w : World) (hx : xs.length = n) (hl : ∀ z ∈ xs, 0 ≤ z ∧ z ≤ 255) (hcv : 0 ≤ cv ∧ cv ≤ 255)
    (hc : ∀ i, i < n → w.cell? (a.add i) = some (.int .u8 (xs.getD i 0))) :
    Calls Try.prog 30 #[.slice (some a) n cap, .int .u8 cv] w fun e w' => e = .returned (.int .i64 (idx xs cv)) ∧ w' = w := by
  have hi := indexByte_idx xs cv hl hcv
  have HI : Hid (Lib.indexByte (Lib.bytesOf xs) cv.toNat.toUInt8 = idx xs cv) := hi
  have hr := Lib.run_indexByteAt (P := Try.prog) w a n cap xs hx hc cv
  have HR : Hid ((Extern.BytealgIndexByte.indexByte #[.slice (some a) n cap, .int .u8 cv]).run Try.prog w = .ok (.int .i64 (Lib.indexByte (Lib.bytesOf xs) cv.toNat.toUInt8)) w) := hr
  clear hi hr hc hl hx
  go_enter Try.func30, Try.ntmps30
  go_wp2
  rw [run_callFunc_extern Try.func32 (by kernel_rfl) (by kernel_rfl) (by kernel_rfl) (e := Extern.BytealgIndexByte.indexByte) (by kernel_rfl), HR.out]
  simp only [Result.andThen]
  rw [Oper.upon_value]
  go_wp2
  go_ret
  exact ⟨ret_int HI.out, rfl⟩

end Go.Proofs.Qxb6601636a.J
