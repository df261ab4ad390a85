/-
  THE WALKS of ParseUint(s, 10, 63) at a text that begins with a minus, and of the public one.
-/
import Derived.Test.Qxb6602457aDoorParse
namespace Go.Proofs.Qxb6602457aDoor.V
open Go.RowKit
set_option linter.unusedVariables false

set_option maxHeartbeats 32000000 in
set_option maxRecDepth 100000 in
theorem iparse_minus (t : ByteArray) (D : List UInt8) (ht : t.data.toList = 45 :: D) (hmax : t.size ≤ 1000) (w : World) :
    Calls Tryd.prog 17 #[.string t, .int .i64 10, .int .i64 63] w fun e w' => e = .returned (.tuple #[.int .u64 0, .iface 44 (.int .i64 2)]) ∧ w' = Lib.bytesWorld w 5 t := by
  have hne : t.size ≠ 0 := by rw [Lib.size_eq, ht]; simp
  have hpos : (0 : Int) < (t.size : Int) := by omega
  have hemp : t.toList.isEmpty = false := by
    rw [← decide_eq_emptyBytes]
    exact decide_eq_false (fun h => hne (by rw [h]; rfl))
  have hcv := Lib.run_convert_string_bytes (P := Tryd.prog) w 9 40 5 t (u := .string) Tryd.underlying9 Tryd.underlying40 Tryd.underlying5
  have hB : (Lib.bytesWorld w 5 t).cell? ⟨w.heap.size, 0, none⟩ = some (.int .u8 45) := by
    rw [Lib.bytesWorld_cell w 5 t 0 (by omega), ht]
    rfl
  have KL : Hid (∀ w, Calls Tryd.prog 21 #[.int .u8 45] w fun e w' => e = .returned (.int .u8 45) ∧ w' = w) := fun w => by
    have := AnyPu.internal_strconv_lower { Tryd.laysPu14 with } 45 w
    exact this
  obtain ⟨W1, hW1⟩ : ∃ W1, W1 = Lib.bytesWorld w 5 t := ⟨_, rfl⟩
  rw [← hW1] at hcv hB ⊢
  clear hW1 ht
  have hmv : IntKind.u64.wrap (IntKind.u64.wrap 9223372036854775808 - 1) = 9223372036854775807 := by
    rw [IntKind.wrap_u64, IntKind.wrap_u64]
    decide
  go_enter Tryd.func17, Tryd.ntmps17
  go_wp2
  go_loop [12, 13, 101] (fun vu vn vi => vi = .int .i64 0)
    (fun _ _ _ => 0)
  case atStart => rfl
  case round =>
    subst hrel
    go_wp2_with fail
    refine (KL.out _).mono ?_
    rintro e w2 ⟨rfl, rfl⟩
    go_wp2_with fail
    go_ret2
    exact ⟨rfl, rfl⟩

theorem parse_ok (t : ByteArray) (hne : t.size ≠ 0) (hmax : t.size ≤ 1000) (hdig : ∀ c ∈ t.data.toList, 48 ≤ c.toNat ∧ c.toNat ≤ 57) (u : Nat) (hu : num t.data.toList = u) (hlt : u < 9223372036854775808) (w : World) :
    Calls Tryd.prog 14 #[.string t, .int .i64 10, .int .i64 63] w fun e w' => e = .returned (.tuple #[.int .u64 u, .nilIface]) ∧ Below w.heap.size w w' := by
  have KI := hid (iparse_ok t hne hmax hdig u hu hlt w)
  clear hne hmax hdig hu hlt
  go_enter Tryd.func14, Tryd.ntmps14
  go_wp2_with fail
  refine KI.out.mono ?_
  rintro e w1 ⟨rfl, rfl⟩
  have HB := hid (Lib.bytesWorld_below w 5 t)
  generalize Lib.bytesWorld w 5 t = W at HB
  clear KI
  go_wp2_with fail
  go_ret2
  exact ⟨rfl, HB.out⟩

/-- strconv.toError at the error's number 2. -/
theorem toError_any (fn s : ByteArray) (base bits : Int) (ev : Value) (w : World) (hlim : s.size ≤ 281474976710656) (hv : w.cell? ⟨1, 0, none⟩ = some ev) (hev : ev = .nilIface ∨ ∃ te pe, ev = .iface te pe) :
    Calls Tryd.prog 18 #[.string fn, .string s, .int .i64 base, .int .i64 bits, .iface 44 (.int .i64 2)] w fun e w' => ∃ N, e = .returned (.iface 47 (.pointer (some ⟨N, 0, none⟩))) ∧ w.heap.size ≤ N ∧ w'.heap[N]? = some (.cells #[.string fn, .string s, ev] 54 (0, 0)) ∧ Below w.heap.size w w' := by
  have KS : Hid (Calls Tryd.prog 23 #[.string fn, .string s] w fun e w' => ∃ N, e = .returned (.pointer (some ⟨N, 0, none⟩)) ∧ w.heap.size ≤ N ∧ w'.heap[N]? = some (.cells #[.string fn, .string s, ev] 54 (0, 0)) ∧ Below w.heap.size w w') :=
    AnyPu.strconv_syntaxError { Tryd.laysPu14 with } fn s ev w hlim hv hev
  clear hlim hv hev
  have heq : ∀ W, (binOp .eql 36 (.iface 44 (.int .i64 2)) (.iface 44 (.int .i64 2))).run Tryd.prog W = .ok (.bool true) W := fun W => Lib.run_eql_iface_int (P := Tryd.prog) W 2 2 Tryd.laysPu14.t24 Tryd.laysPu14.c34 Tryd.laysPu14.t34
  go_enter Tryd.func18, Tryd.ntmps18
  go_wp2_with fail
  refine KS.out.mono ?_
  rintro e w1 ⟨N, rfl, h1, h2, h3⟩
  have H2 := hid h2
  have H3 := hid h3
  clear h2 h3 KS
  go_wp2_with fail
  go_ret
  exact ⟨N, rfl, h1, H2.out, H3.out⟩

theorem parse_minus (t : ByteArray) (D : List UInt8) (ht : t.data.toList = 45 :: D) (hmax : t.size ≤ 1000) (ev : Value) (w : World) (hv : w.cell? ⟨1, 0, none⟩ = some ev) (hev : ev = .nilIface ∨ ∃ te pe, ev = .iface te pe) :
    Calls Tryd.prog 14 #[.string t, .int .i64 10, .int .i64 63] w fun e w' => ∃ N, e = .returned (.tuple #[.int .u64 0, .iface 47 (.pointer (some ⟨N, 0, none⟩))]) ∧ Below w.heap.size w w' := by
  have KI := hid (iparse_minus t D ht hmax w)
  have hG : 1 < w.heap.size := World.block_lt_of_cell? _ _ hv
  have HB := hid (Lib.bytesWorld_below w 5 t)
  have hv1 : (Lib.bytesWorld w 5 t).cell? ⟨1, 0, none⟩ = some ev := (HB.out.cell (p := ⟨1, 0, none⟩) hG).trans hv
  have KT : Hid (Calls Tryd.prog 18 #[.string ⟨#[80, 97, 114, 115, 101, 85, 105, 110, 116]⟩, .string t, .int .i64 10, .int .i64 63, .iface 44 (.int .i64 2)] (Lib.bytesWorld w 5 t) fun e w' => ∃ N, e = .returned (.iface 47 (.pointer (some ⟨N, 0, none⟩))) ∧ (Lib.bytesWorld w 5 t).heap.size ≤ N ∧ w'.heap[N]? = some (.cells #[.string ⟨#[80, 97, 114, 115, 101, 85, 105, 110, 116]⟩, .string t, ev] 54 (0, 0)) ∧ Below (Lib.bytesWorld w 5 t).heap.size (Lib.bytesWorld w 5 t) w') :=
    toError_any ⟨#[80, 97, 114, 115, 101, 85, 105, 110, 116]⟩ t 10 63 ev _ (by omega) hv1 hev
  generalize Lib.bytesWorld w 5 t = W at KI HB KT
  clear ht hmax hv hv1 hev hG
  go_enter Tryd.func14, Tryd.ntmps14
  go_wp2_with fail
  refine KI.out.mono ?_
  rintro e w1 ⟨rfl, rfl⟩
  clear KI
  go_wp2_with fail
  refine KT.out.mono ?_
  rintro e w2 ⟨N, rfl, _, _, hb⟩
  have HB2 := hid (HB.out.trans (hb.mono HB.out.size))
  clear hb KT HB
  go_wp2_with fail
  go_ret2
  exact ⟨N, rfl, HB2.out⟩

end Go.Proofs.Qxb6602457aDoor.V
