/-
  THE WALK of strings.IndexRune("eE", r) at r from 128 on, and of strings.IndexAny(s, "eE").
-/
import Derived.Test.Qxb6601839aPlain
import Derived.Laws.Runes
import Derived.Deep.QuietTactic
import Derived.BigQuiet
import Derived.Scope
import Derived.Deep.LoopGhost
namespace Go.Proofs.Qxb6601839a.E
open Go.RowKit
set_option linter.unusedVariables false

abbrev eE : ByteArray := ⟨#[101, 69]⟩

theorem two_form (s : ByteArray) (h : s.size = 2) : ∃ a b, s = ⟨#[a, b]⟩ := by
  match s, h with
  | ⟨⟨[a, b]⟩⟩, _ => exact ⟨a, b, rfl⟩

set_option maxHeartbeats 4000000 in
set_option maxRecDepth 100000 in
/-- r is the replacement rune: the range loop over "eE" finds none. -/
theorem rune_err (w : World) :
    Calls Try.prog 25 #[.string eE, .int .i32 65533] w fun e w' => e = .returned (.int .i64 (-1)) ∧ Below w.heap.size w w' := by
  go_enter Try.func25, Try.ntmps25
  go_wp2_with fail
  go_loopg [5, 6] 2 (fun g _ _ wx => ∃ i : Nat, i + g = 2 ∧ wx = w.iter eE i)
  case atStart => exact ⟨0, rfl, rfl⟩
  case round =>
    obtain ⟨i, hig, rfl⟩ := hrel
    have hbel : ∀ j, Below w.heap.size w (w.iter eE j) := fun j => (Below.refl _ _).alloc (Nat.le_refl _) _
    have HBEL := hid hbel
    clear hbel
    match gk, i, hig with
    | 0, 2, _ =>
      have hnx := fun ty => run_next_end (P := Try.prog) w eE 2 ty (by decide)
      go_wp2_with fail
      go_ret
      exact ⟨rfl, HBEL.out _⟩
    | 1, 1, _ =>
      have hnx : ∀ ty, _ = Result.ok (Value.tuple #[.bool true, .int .i64 ((1 : Nat) : Int), .int .i32 69]) (w.iter eE 2) := fun ty => run_next_ascii (P := Try.prog) w eE 1 ty (by decide) (by decide)
      go_wp2_with fail
      go_roundg 0
      case measure => omega
      case rel => exact ⟨2, rfl, rfl⟩
    | 2, 0, _ =>
      have hnx : ∀ ty, _ = Result.ok (Value.tuple #[.bool true, .int .i64 ((0 : Nat) : Int), .int .i32 101]) (w.iter eE 1) := fun ty => run_next_ascii (P := Try.prog) w eE 0 ty (by decide) (by decide)
      go_wp2_with fail
      go_roundg 1
      case measure => omega
      case rel => exact ⟨1, rfl, rfl⟩

set_option maxHeartbeats 4000000 in
set_option maxRecDepth 100000 in
/-- r from 128 on, and not that one. -/
theorem rune_other (r : Int) (h1 : 128 ≤ r) (h2 : r ≤ 1114111) (h3 : r ≠ 65533) (w : World) :
    Calls Try.prog 25 #[.string eE, .int .i32 r] w fun e w' => e = .returned (.int .i64 (-1)) ∧ Below w.heap.size w w' := by
  show Calls Try.prog 25 #[.string ⟨#[101, 69]⟩, .int .i32 r] w _
  have e3 : (r == 65533) = false := by simpa using h3
  have KV := hid (Try.utf8_ValidRune r w)
  cases hv : Lib.validRune r with
  | false =>
    rw [hv] at KV
    clear hv h3
    go_enter Try.func25, Try.ntmps25
    go_wp2_with fail
    refine KV.out.mono ?_
    rintro e w1 ⟨rfl, rfl⟩
    clear KV
    go_wp2_with fail
    go_ret
    exact ⟨rfl, Below.refl _ _⟩
  | true =>
    rw [hv] at KV
    have hval : Utf8.valid r = true := by
      unfold Lib.validRune at hv
      unfold Utf8.valid
      simp at hv ⊢
      omega
    obtain ⟨hl2, hl4, hlast⟩ := encode_facts r hval h1
    clear hv hval h3
    have hcv : ∀ w, (convert 21 9 (.int .i32 r)).run Try.prog w = .ok (.string (Utf8.encode r)) w := fun w => run_convert_int_string w 21 9 .i32 r (by rw [Try.underlying21]; rfl) Try.underlying9
    by_cases hn : (Utf8.encode r).size = 2
    · obtain ⟨a, b, he⟩ := two_form _ hn
      rw [he] at hlast
      have hb : 128 ≤ b.toNat := hlast (show 2 - 1 < 2 by decide)
      have et : ((((⟨#[101, 69]⟩ : ByteArray)[1]'(show 1 < 2 by decide)).toNat : Int) != (((⟨#[a, b]⟩ : ByteArray)[1]'(show 1 < 2 by decide)).toNat : Int)) = true := by
        show ((69 : Int) != (b.toNat : Int)) = true
        simp
        omega
      have KI : Hid (∀ w, Calls Try.prog 30 #[.string ByteArray.empty, .int .u8 (((⟨#[a, b]⟩ : ByteArray)[1]'(show 1 < 2 by decide)).toNat : Int)] w fun e w' => e = .returned (.int .i64 (-1)) ∧ w' = w) := fun w => Try.strings_IndexByte _ _ w
      clear hlast hl2 hl4 hn
      go_enter Try.func25, Try.ntmps25
      go_wp2_with fail
      refine KV.out.mono ?_
      rintro e w1 ⟨rfl, rfl⟩
      clear KV
      go_wp2_with fail
      refine wp_scope_straight ?_
      go_wp2_with fail
      go_loopw [9, 10] (fun x y wr => x = .int .i64 1 ∧ wr = w1) (fun _ _ _ => 0)
      case atStart => exact ⟨rfl, rfl⟩
      case round =>
        obtain ⟨rfl, rfl⟩ := hrel
        go_wp2_with fail
        refine wp_scope_straight ?_
        go_wp2_with fail
        go_quiet (fail)
        go_wp2_with fail
        have hw2 : IntKind.i64.wrap 2 = 2 := rfl
        have hbq : Below wr.heap.size wr (wr.drewN nq) := ⟨rfl, rfl, rfl, Nat.le_refl _, fun _ _ => rfl⟩
        have HBQ := hid hbq
        clear hbq
        generalize wr.drewN nq = wq at HBQ ⊢
        go_quiet (first | (go_at_call 30; refine Calls.quiet_of_same (KI.out _)))
        go_wp2_with fail
        show bodyPost Try.prog Try.f25 (fun e w' => e = Ending.returned (Value.int IntKind.i64 (-1)) ∧ Below wr.heap.size wr w') Exit.ret _ _
        go_ret
        exact ⟨rfl, HBQ.out.trans ⟨rfl, rfl, rfl, Nat.le_refl _, fun _ _ => rfl⟩⟩
    · have hn3 : 3 ≤ (Utf8.encode r).size := by omega
      clear hlast hl2 hn
      go_enter Try.func25, Try.ntmps25
      go_wp2_with fail
      refine KV.out.mono ?_
      rintro e w1 ⟨rfl, rfl⟩
      clear KV
      go_wp2_with fail
      refine wp_scope_straight ?_
      go_wp2_with fail
      go_loopw [9, 10] (fun x y wr => x = .int .i64 ((Utf8.encode r).size - 1) ∧ wr = w1) (fun _ _ _ => 0)
      case atStart => exact ⟨rfl, rfl⟩
      case round =>
        obtain ⟨rfl, rfl⟩ := hrel
        have hnl : ¬ ((Utf8.encode r).size : Int) - 1 < 2 := by omega
        go_wp2_with fail
        go_ret
        exact ⟨rfl, Below.refl _ _⟩
end Go.Proofs.Qxb6601839a.E
