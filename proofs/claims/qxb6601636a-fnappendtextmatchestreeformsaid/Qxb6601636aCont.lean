/-
  Two closings for the walk of jf1RenderContainer.
-/
import Derived.Test.Qxb6601636aRender
namespace Go.Proofs.Qxb6601636a.J
open Go.RowKit
set_option linter.unusedVariables false

theorem cast1 (m : Nat) : ((m + 1 : Nat) : Int) = (m : Int) + 1 := by omega

theorem val_empty {W : World} {ao : Option Addr} {xs : List Int} {d : Int} {fl : Bool} {ks : List Int} {p q : Nat} {w : World} {v : Value} {c cl : Int} (hb : Buf W ao 0 [] w v (ks ++ [c] ++ [cl])) (hp : p < xs.length)
    (hc : xs.getD p 0 = c) (hc' : c = 91 ∨ c = 123) (hd : -9223372036854775808 ≤ d) (hqe : q = skip xs (p + 1)) (hq : q < xs.length) (hcl : xs.getD q 0 = cl) (hcl' : cl = 93 ∨ cl = 125) (hks : ks.length ≤ 8 * p) :
    Val W ao xs d fl ks p (.returned (.tuple #[.int .i64 (q + 1 : Nat), v, .bool true])) w := by
  subst hc; subst hcl
  have hle := le_skip xs (p + 1)
  refine ⟨q + 1, v, true, rfl, hb.kept, fun _ => ⟨[xs.getD p 0] ++ [xs.getD q 0], by simpa using hb, hp, by omega, by omega, by omega, by omega, ?_, relV_empty xs p d fl q hp hc' hd hqe hq hcl'⟩⟩
  simp; omega

theorem val_close {W : World} {ao : Option Addr} {xs : List Int} {d : Int} {fl : Bool} {ks A : List Int} {p j r : Nat} {w : World} {v : Value} {c cl : Int} (hb : Buf W ao 0 [] w v (ks ++ (A ++ lineIf (lin fl d) d ++ [cl]))) (hp : p < xs.length)
    (hc : xs.getD p 0 = c) (hc' : c = 91 ∨ c = 123) (hd : -9223372036854775808 ≤ d) (ha : Aft xs p d fl A j) (hj : j ≤ xs.length) (hre : r = skip xs j) (hr : r < xs.length) (hpj : p < j) (hcl : xs.getD r 0 = cl) (hcl' : cl = 93 ∨ cl = 125) (hks : (ks ++ A).length ≤ 8 * j) :
    Val W ao xs d fl ks p (.returned (.tuple #[.int .i64 (r + 1 : Nat), v, .bool true])) w := by
  subst hc; subst hcl
  have hle := le_skip xs j
  refine ⟨r + 1, v, true, rfl, hb.kept, fun _ => ⟨_, hb, hp, by omega, by omega, by omega, by omega, ?_, relV_close xs p d fl A j r ha hj hre hr hcl' hd⟩⟩
  have hl : (lineIf (lin fl d) d).length ≤ 7 := by
    unfold lineIf
    split
    · rename_i h
      have : d < 3 := by unfold lin at h; cases fl <;> simp_all
      rw [length_line]; omega
    · simp
  simp at hks ⊢
  omega

end Go.Proofs.Qxb6601636a.J
