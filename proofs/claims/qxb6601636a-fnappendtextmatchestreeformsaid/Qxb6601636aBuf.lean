/-
  A SLICE OF BYTES THAT IS APPENDED TO, without spare room at its start: the library's 'Upon' at capacity = length; the walk's laws for 'append' at this program.
-/
import Derived.Test.Qxb6601636aEnd
import Derived.Test.Qxb6601636aTree
import Derived.Deep.Upon
namespace Go.Proofs.Qxb6601636a.J
open Go.RowKit
set_option linter.unusedVariables false

/-- Of the blocks below B nothing has turned; nor the outside world, nor the output. -/
structure Kept (B : Nat) (w w' : World) : Prop where
  os : w'.os = w.os
  output : w'.output = w.output
  size : w.heap.size ≤ w'.heap.size
  block : ∀ k, k < B → w'.heap[k]? = w.heap[k]?

theorem Kept.of_below {B : Nat} {w w' : World} (h : Below B w w') : Kept B w w' := ⟨h.os, h.output, h.size, h.block⟩
theorem Kept.refl (B : Nat) (w : World) : Kept B w w := ⟨rfl, rfl, Nat.le_refl _, fun _ _ => rfl⟩
theorem Kept.trans {B : Nat} {a b c : World} (h : Kept B a b) (k : Kept B b c) : Kept B a c :=
  ⟨k.os.trans h.os, k.output.trans h.output, Nat.le_trans h.size k.size, fun i hi => (k.block i hi).trans (h.block i hi)⟩
theorem Kept.mono {B B' : Nat} {w w' : World} (h : Kept B w w') (hB : B' ≤ B) : Kept B' w w' := ⟨h.os, h.output, h.size, fun k hk => h.block k (Nat.lt_of_lt_of_le hk hB)⟩
theorem Kept.cell {B : Nat} {w w' : World} (h : Kept B w w') {p : Addr} (hp : p.block < B) : w'.cell? p = w.cell? p := World.cell?_of_block (w := w) (h.block p.block hp)
theorem Kept.frame {W w' : World} (h : Kept W.heap.size W w') (may : MemPlace → Prop) : W.keptBut w' may := by
  refine ⟨h.os, h.output, fun i hi => ?_⟩
  rw [h.block i hi]
  split <;> simp_all
theorem Kept.same {W w' : World} (h : Kept W.heap.size W w') {p : MemPlace} (hp : p.block < W.heap.size) : W.sameAt w' p := by
  cases p with
  | cell b o => exact World.cell?_of_block (w := W) (h.block b hp)
  | map b => exact h.block b hp

/-- ks HAVE BEEN APPENDED to the slice that lay at ao with len elements, no spare; W: the world at its start. -/
def Buf (W : World) (ao : Option Addr) (len : Nat) (olds : List Value) (w : World) (v : Value) (ks : List Int) : Prop :=
  ∃ b off, Came W 1 ao b off len len olds ∧ Upon W 5 1 ao b off len len olds w v ks.length (ks.map (Value.int .u8)) 0

section
variable {W : World} {ao : Option Addr} {len : Nat} {olds : List Value} {w : World} {v : Value} {ks : List Int}

theorem Buf.kept (h : Buf W ao len olds w v ks) : Kept W.heap.size W w := by
  obtain ⟨b, off, _, hu⟩ := h
  exact ⟨hu.kept.1, hu.kept.2.1, hu.kept.size, fun k hk => hu.kept.block hk (fun p ⟨j, hj, _⟩ => by omega)⟩
theorem Buf.alloc (h : Buf W ao len olds w v ks) (o : Obj) : Buf W ao len olds (w.alloc o) v ks := by
  obtain ⟨b, off, hc, hu⟩ := h
  exact ⟨b, off, hc, hu.alloc hc o⟩
theorem Buf.shape (h : Buf W ao len olds w v ks) : ∃ a' c', v = .slice a' (len + ks.length) c' := by
  obtain ⟨b, off, hc, hu⟩ := h
  exact hu.shape
theorem Buf.start_empty (W : World) (ao : Option Addr) : Buf W ao 0 [] W (.slice ao 0 0) [] :=
  ⟨0, 0, ⟨Nat.le_refl _, by omega, by omega, rfl, by simp, by simp⟩, Upon.start ⟨Nat.le_refl _, by omega, by omega, rfl, by simp, by simp⟩⟩
theorem Buf.start_row (W : World) (g n : Nat) (xs : List Int) (hx : xs.length = n) (hrow : W.heap[g]? = some (.cells (xs.map (Value.int .u8)).toArray 5 (0, 0))) :
    Buf W (some ⟨g, 0, none⟩) n (xs.map (Value.int .u8)) W (.slice (some ⟨g, 0, none⟩) n n) [] := by
  have hlt : g < W.heap.size := by
    apply Classical.byContradiction; intro h; rw [Array.getElem?_eq_none (by omega)] at hrow; cases hrow
  have hc : Came W 1 (some ⟨g, 0, none⟩) g 0 n n (xs.map (Value.int .u8)) := ⟨Nat.le_refl _, fun _ => rfl, fun _ => hlt, by simp [hx], fun j u hj => by
    simp [World.cell?, hrow] at hj ⊢; exact hj, by simp⟩
  exact ⟨g, 0, hc, Upon.start hc⟩
end

theorem app_law {W : World} {ao : Option Addr} {len : Nat} {olds : List Value} {w : World} {v : Value} {ks : List Int} {ops : Array Oper} {rest : List Oper} {o : Oper} {a : Act} {Q : Exit → Act → World → Prop}
    (hgd : o.guard = none) (s x : Operand) (tx : TypeId) (ho : o.op = .call { callee := .builtin .append, args := #[s, x], argTypes := #[22, tx] })
    (hv : a.eval s = v) (h : Buf W ao len olds w v ks) (xv : Value) (news : List Int) (hx : a.eval x = xv) (hs : Src Try.prog 1 tx xv news.length (news.map (Value.int .u8)) w)
    (hb : len + ks.length + news.length ≤ 1099511627776)
    (hK : ∀ v' w', Buf W ao len olds w' v' (ks ++ news) → wpList Try.prog ops Q rest (a.put o.dst v') w') : wpList Try.prog ops Q (o :: rest) a w := by
  obtain ⟨b, off, hc, hu⟩ := h
  obtain ⟨i0, hi, hz0, hz1, hz2⟩ := info_parts info5
  refine wpList_append_upon w hgd s x 22 tx ho hc i0 (.int .u8 0) 1 Try.underlying22 hi hz0 hz1 hz2 rfl hv hu xv news.length (news.map (Value.int .u8)) hx hs (by unfold maxLen; omega) (by omega) ?_
  intro v' w' hu'
  refine hK v' w' ⟨b, off, hc, ?_⟩
  have e : Upon.next len len 1 ks.length 0 news.length = 0 := by unfold Upon.next; split <;> omega
  rw [e] at hu'
  simpa using hu'

/-- append(out, c) -/
theorem app1 {W : World} {ao : Option Addr} {len : Nat} {olds : List Value} {w : World} {v : Value} {ks : List Int} {ops : Array Oper} {rest : List Oper} {o : Oper} {a : Act} {Q : Exit → Act → World → Prop} {c : Int}
    (hgd : o.guard = none) (s x : Operand) (ho : o.op = .call { callee := .builtin .append, args := #[s, x], argTypes := #[22, 22] })
    (hv : a.eval s = v) (h : Buf W ao len olds w v ks) (hx : a.eval x = .slice (some ⟨w.heap.size, 0, none⟩) 1 1)
    (hb : len + ks.length + 1 ≤ 1099511627776)
    (hK : ∀ v' w', Buf W ao len olds w' v' (ks ++ [c]) → wpList Try.prog ops Q rest (a.put o.dst v') w') : wpList Try.prog ops Q (o :: rest) a (w.alloc (.cells #[.int .u8 c] 5)) := by
  refine app_law hgd s x 22 ho hv (h.alloc _) _ [c] hx (Src.ofSlice _ Try.underlying22 _ 1 1 _ (by simp) ?_ (by simp [Value.oneCell'])) hb hK
  intro j u hj
  match j, hj with
  | 0, hj => simp at hj; subst hj; simp [Addr.add]

/-- append(out, c, d) -/
theorem app2 {W : World} {ao : Option Addr} {len : Nat} {olds : List Value} {w : World} {v : Value} {ks : List Int} {ops : Array Oper} {rest : List Oper} {o : Oper} {a : Act} {Q : Exit → Act → World → Prop} {c d : Int}
    (hgd : o.guard = none) (s x : Operand) (ho : o.op = .call { callee := .builtin .append, args := #[s, x], argTypes := #[22, 22] })
    (hv : a.eval s = v) (h : Buf W ao len olds w v ks) (hx : a.eval x = .slice (some ⟨w.heap.size, 0, none⟩) 2 2)
    (hb : len + ks.length + 2 ≤ 1099511627776)
    (hK : ∀ v' w', Buf W ao len olds w' v' (ks ++ [c, d]) → wpList Try.prog ops Q rest (a.put o.dst v') w') : wpList Try.prog ops Q (o :: rest) a (w.alloc (.cells #[.int .u8 c, .int .u8 d] 5)) := by
  refine app_law hgd s x 22 ho hv (h.alloc _) _ [c, d] hx (Src.ofSlice _ Try.underlying22 _ 2 2 _ (by simp) ?_ (by simp [Value.oneCell'])) hb hK
  intro j u hj
  match j, hj with
  | 0, hj => simp at hj; subst hj; simp [Addr.add]
  | 1, hj => simp at hj; subst hj; simp [Addr.add]

/-- append(out, t[p:j]...) -/
theorem appT {W : World} {ao : Option Addr} {len : Nat} {olds : List Value} {w : World} {v : Value} {ks : List Int} {ops : Array Oper} {rest : List Oper} {o : Oper} {a : Act} {Q : Exit → Act → World → Prop}
    (hgd : o.guard = none) (s x : Operand) (ho : o.op = .call { callee := .builtin .append, args := #[s, x], argTypes := #[22, 22] })
    (hv : a.eval s = v) (h : Buf W ao len olds w v ks) (xs : List Int) (b off p j n c : Nat) (hxl : xs.length = n) (hx : a.eval x = .slice (some ⟨b, off + p, none⟩) (j - p) c) (hj : j ≤ n) (hp : p ≤ j)
    (hc : ∀ i, i < n → w.cell? ⟨b, off + i, none⟩ = some (.int .u8 (xs.getD i 0)))
    (hb : len + ks.length + (j - p) ≤ 1099511627776)
    (hK : ∀ v' w', Buf W ao len olds w' v' (ks ++ piece xs p j) → wpList Try.prog ops Q rest (a.put o.dst v') w') : wpList Try.prog ops Q (o :: rest) a w := by
  have hl : (piece xs p j).length = j - p := length_piece xs p j (by omega) hp
  refine app_law hgd s x 22 ho hv h _ (piece xs p j) hx ?_ (by rw [hl]; exact hb) hK
  rw [hl]
  refine Src.ofSlice _ Try.underlying22 _ (j - p) c _ (by simp [hl]) ?_ (fun u hu => by simp at hu; obtain ⟨z, _, rfl⟩ := hu; rfl)
  intro i u hi
  have hcd := cells_drop (m := p) (q := j - p) (by omega) hc
  have hil : i < j - p := by
    apply Classical.byContradiction; intro hn
    rw [List.getElem?_eq_none (by simp [hl]; omega)] at hi; cases hi
  rw [hcd i hil]
  have hil' : i < (piece xs p j).length := by omega
  simp [hil'] at hi
  rw [← hi]
  show some (Value.int .u8 ((piece xs p j).getD i 0)) = _
  simp [List.getD, hil']

/-- append(out, a string...) -/
theorem appS {W : World} {ao : Option Addr} {len : Nat} {olds : List Value} {w : World} {v : Value} {ks : List Int} {ops : Array Oper} {rest : List Oper} {o : Oper} {a : Act} {Q : Exit → Act → World → Prop}
    (hgd : o.guard = none) (s x : Operand) (ho : o.op = .call { callee := .builtin .append, args := #[s, x], argTypes := #[22, 9] })
    (hv : a.eval s = v) (h : Buf W ao len olds w v ks) (hx : a.eval x = .string ⟨#[32, 32]⟩)
    (hb : len + ks.length + 2 ≤ 1099511627776)
    (hK : ∀ v' w', Buf W ao len olds w' v' (ks ++ [32, 32]) → wpList Try.prog ops Q rest (a.put o.dst v') w') : wpList Try.prog ops Q (o :: rest) a w :=
  app_law hgd s x 9 ho hv h _ [32, 32] hx (Src.ofString w Try.underlying9 ⟨#[32, 32]⟩) hb hK

end Go.Proofs.Qxb6601636a.J
