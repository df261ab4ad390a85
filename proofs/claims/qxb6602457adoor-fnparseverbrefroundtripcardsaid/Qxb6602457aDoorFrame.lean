/-
  THE ROW's FRAME of this seat's law (two int64 parameters; three tables and two sentinels listed; bytealg.MaxLen named, whatever it holds).
-/
import Derived.Test.Qxb6602457aDoorLaw
import Derived.Test.Qxb6602457aDoorRows
import Derived.ProofKit
import Derived.OpenShut
import Derived.ShutString
import Derived.LaidLaws
import Derived.LaidHandle
import Derived.Lib.LaidTab
import Derived.HandedShaped
import Derived.Stop.LaidErr
namespace Go.Proofs.Qxb6602457aDoor.V
open Go.ChangeShapes Go.WideShapes Go.ChangeAt Go.RowKit
set_option linter.unusedVariables false

abbrev laid : List (String × DataW Unit) := Rows.fnParseVerbRefRoundTripRow.laid

theorem own : ownKnob Tryd.prog.godebug = none := by kernel_rfl

/-- The wrap with a condition on the world AND the world's shape kept. -/
theorem returnsInHanded_and_shaped {H : Type} {enc : TypeId × Value → H} {a : Assume} {C : Checked} {os : Os} {f : FuncId} {fn : Func} {s : ChangeSpec} {conds : List PathCond} {apart fresh handsOn again : Bool} {X : World → Array Value → Prop}
    (hX : ∀ (w w' : World) (args : Array Value), w.heap = w'.heap → X w args → X w' args)
    (own : ownKnob C.prog.godebug = none) (started : os.Started) (noInit : C.prog.inits.idxOf? f = none) (hfn : C.prog.funcs[f]? = some fn)
    (witness : ∃ (w : World) (tape : Tape) (i : Input), w.os = os ∧ (w.forCall tape i).Shaped C.prog ∧ i.vars = [] ∧ Input.okWide C.prog (w.forCall tape i) .any w.heap.size f i ∧
      ((s.pre enc C.prog fn conds apart (w.forCall tape i).memory i.args ∧ X (w.forCall tape i).memory i.args) ∧ sizedMet enc C.prog fn (OpenSpec.ofChange s) apart (w.forCall tape i).memory i.args) ∧ a.holds C.prog (lone (Frame.enter C.prog f i.args .normal) [] (w.forCall tape i)))
    (contract : ∀ (W : World) (base : Nat) (args : Array Value) (ds gs : List (DataW H)) (before : List MemPlace),
      (∀ (j : Nat) t v, fn.params[j]? = some t → args[j]? = some v → Value.okWide C.prog W .any base t v) →
      DataW.Whole enc C.prog fn.params.toList s.vars apart W args.toList ds gs before → X W args → W.ShapedOpen C.prog →
      Calls C.prog f args W fun e W' => ∃ v, e = .returned v ∧ s.post enc C.prog fn apart fresh handsOn again W args v W') :
    ReturnsInHanded a C os f .any (fun w args => (s.pre enc C.prog fn conds apart w args ∧ X w args) ∧ sizedMet enc C.prog fn (OpenSpec.ofChange s) apart w args) (s.post enc C.prog fn apart fresh handsOn again) := by
  refine returnsInHanded_of_calls own started noInit witness ?_
  intro w tape i _ hsh _ hok hpre hholds
  obtain ⟨_, _, _, fn', hfn', _, _, _, _, hval⟩ := hok
  have e : fn' = fn := Option.some.inj (hfn'.symm.trans hfn)
  subst e
  obtain ⟨⟨⟨ds, gs, before, hw, hc⟩, hx⟩, hz⟩ := hpre
  have hw' := DataW.Whole.of_heap (w' := w.forCall tape i) (by rfl) hw
  refine (contract (w.forCall tape i) w.heap.size i.args ds gs before hval hw' (hX _ _ _ (by rfl) hx) hsh).mono fun e W' ⟨v, he, hp⟩ => ?_
  subst he
  exact ChangeSpec.post_blind hp

theorem g1 : Tryd.prog.globalNamed "strconv.ErrSyntax" = some 1 := by kernel_rfl
theorem gt1 : (Tryd.prog.globals[1]?).map (·.type) = some 36 := by kernel_rfl
theorem c63 : Tryd.prog.cellsOf 63 = 1 := by kernel_rfl
theorem c9 : Tryd.prog.cellsOf 9 = 1 := by kernel_rfl
/-- The type's name, as the given row spells it. -/
def nameOf : DataW Unit → String
  | .iface n _ => n
  | _ => ""
abbrev nm61 : String := nameOf Rows.laid_strconv_ErrSyntax
theorem row61 (u : TypeId) (h : Tryd.prog.typeName? 3 u = some nm61) : u = 61 :=
  typeName_ptr_named (nm := "errors.errorString") (by kernel_rfl) (by kernel_rfl) (by decide) u (h.trans (by kernel_rfl))

/-- What the condition and the shape give the walk. -/
theorem env_of {W : World} (h : laidMetH Tryd.prog laid W) (hsh : W.ShapedOpen Tryd.prog) : Env W := by
  have h' : laidMet Tryd.prog [(_, Rows.laid_math_bits_deBruijn32tab), (_, Rows.laid_math_bits_deBruijn64tab), (_, Rows.laid_internal_strconv_uint64pow10), (_, Rows.laid_strconv_ErrRange), ("strconv.ErrSyntax", Rows.laid_strconv_ErrSyntax)] W := h
  refine ⟨Tryd.laysM145.s1_3 W hsh, ?_⟩
  obtain ⟨a1, s1, hv1, _, _, _⟩ := laid_sentinel (laidMet.tail (laidMet.tail (laidMet.tail (laidMet.tail h')))) g1 gt1 Tryd.underlying36 row61 Tryd.underlying61 Tryd.underlying63 rfl rfl Tryd.underlying9 c63 c9
  exact ⟨_, by simpa using World.var?_cell g1 hv1 0, .inr ⟨_, _, rfl⟩⟩

def bytes8 (zs : List Int) : Array Value := (zs.map fun z => Value.int .u8 z).toArray
def tab32 : List Int := [0, 1, 28, 2, 29, 14, 24, 3, 30, 22, 20, 15, 25, 17, 4, 8, 31, 27, 13, 23, 21, 19, 16, 7, 26, 12, 18, 6, 11, 5, 10, 9]
def tab64 : List Int := [0, 1, 56, 2, 57, 49, 28, 3, 61, 58, 42, 50, 38, 29, 17, 4, 62, 47, 59, 36, 45, 43, 51, 22, 53, 39, 33, 30, 24, 18, 12, 5, 63, 55, 48, 27, 60, 41, 37, 16, 46, 35, 44, 21, 52, 32, 23, 11, 54, 26, 40, 15, 34, 20, 31, 10, 25, 14, 19, 9, 13, 8, 7, 6]
def lay (w : World) (g : Nat) (cs : Array Value) : World := { w with heap := w.heap.modify g fun
      | .cells _ t frozen => .cells cs t frozen
      | o => o }
/-- The two texts that the sentinels bear. -/
def texts : Array Obj := #[.cells #[.string ⟨#[118, 97, 108, 117, 101, 32, 111, 117, 116, 32, 111, 102, 32, 114, 97, 110, 103, 101]⟩] 63, .cells #[.string ⟨#[105, 110, 118, 97, 108, 105, 100, 32, 115, 121, 110, 116, 97, 120]⟩] 63]
/-- A start that meets the condition: the given world with the three tables and the two sentinels laid. -/
def laidIn (w : World) : World :=
  lay (lay (lay (lay (lay w 3 (Lib.pow10Tab.map fun z => Value.int .u64 z).toArray) 4 (bytes8 tab32)) 5 (bytes8 tab64)) 2 #[.iface 61 (.pointer (some ⟨w.heap.size - 2, 0, none⟩))]) 1 #[.iface 61 (.pointer (some ⟨w.heap.size - 1, 0, none⟩))]

theorem start_met (os : Os) : laidMetH Tryd.prog laid ((laidIn (World.holding Tryd.prog os ⟨texts, #[], []⟩)).forCall (fun _ _ => 0) ⟨#[], #[.int .i64 0, .int .i64 0], []⟩).memory :=
  laidMetH_of_parts (laidMet_of_run' 8 (by kernel_rfl) (by kernel_rfl)) (by kernel_rfl)

end Go.Proofs.Qxb6602457aDoor.V
