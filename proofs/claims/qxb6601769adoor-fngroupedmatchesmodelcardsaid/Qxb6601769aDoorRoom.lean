/-
  AN ARRAY OF 32 BYTES OF THE CALL's OWN, appended to within its room; strconv.AppendUint at base 10 onto it.
-/
import Derived.Test.Qxb6601769aDoorBuilder
import Derived.Test.Qxb6601769aDoorRows
import Derived.Deep.Upon
import Derived.Shelf.Strconv.AppendInt10
namespace Go.Proofs.Qxb6601769aDoor.M
open Go.RowKit Go.Sort
set_option linter.unusedVariables false

/-- Of the blocks below B nothing has turned; nor the outside world, nor the output. -/
structure Kept (B : Nat) (w w' : World) : Prop where
  os : w'.os = w.os
  output : w'.output = w.output
  size : w.heap.size ≤ w'.heap.size
  block : ∀ k, k < B → w'.heap[k]? = w.heap[k]?

theorem Kept.of_below {B : Nat} {w w' : World} (h : Below B w w') : Kept B w w' := ⟨h.os, h.output, h.size, h.block⟩
theorem Kept.refl (B : Nat) (w : World) : Kept B w w := ⟨rfl, rfl, Nat.le_refl _, fun _ _ => rfl⟩
theorem Kept.trans {B : Nat} {a b c : World} (h : Kept B a b) (k : Kept B b c) : Kept B a c :=
  ⟨k.os.trans h.os, k.output.trans h.output, Nat.le_trans h.size k.size, fun i hi => (k.block i hi).trans (h.block i hi)⟩
theorem Kept.mono {B B' : Nat} {w w' : World} (h : Kept B w w') (hB : B' ≤ B) : Kept B' w w' := ⟨h.os, h.output, h.size, fun k hk => h.block k (Nat.lt_of_lt_of_le hk hB)⟩
theorem Kept.cell {B : Nat} {w w' : World} (h : Kept B w w') {p : Addr} (hp : p.block < B) : w'.cell? p = w.cell? p := World.cell?_of_block (w := w) (h.block p.block hp)
theorem Kept.frame {W w' : World} (h : Kept W.heap.size W w') (may : MemPlace → Prop) : W.keptBut w' may := by
  refine ⟨h.os, h.output, fun i hi => ?_⟩
  rw [h.block i hi]
  split <;> simp_all
theorem Kept.same {W w' : World} (h : Kept W.heap.size W w') {p : MemPlace} (hp : p.block < W.heap.size) : W.sameAt w' p := by
  cases p with
  | cell b o => exact World.cell?_of_block (w := W) (h.block b hp)
  | map b => exact h.block b hp
theorem Kept.drewN {B : Nat} {w w' : World} (h : Kept B w w') (q : Nat) : Kept B w (w'.drewN q) := ⟨h.os, h.output, h.size, h.block⟩
theorem Kept.drew {B : Nat} {w w' : World} (h : Kept B w w') : Kept B w w'.drew := ⟨h.os, h.output, h.size, h.block⟩

/-- The listed variables; the name of the table of powers of ten among them. -/
abbrev laid : List (String × DataW Unit) := Rows.fnGroupedMatchesModelRow.laid
abbrev pn : String := (laid.getD 2 ("", .agg [])).1

/-- A table that is read so goes on being read so. -/
theorem tab_kept {name : String} {k : IntKind} {zs : List Int} {w w' : World} (h : Lib.TabIs Tryd.prog w name k zs) (hk : Kept w.heap.size w w') : Lib.TabIs Tryd.prog w' name k zs := by
  unfold Lib.TabIs World.var? at *
  cases hg : Tryd.prog.globalNamed name with
  | none => simp [hg] at h
  | some g =>
    simp only [hg, Option.bind_some] at h ⊢
    have hlt : g < w.heap.size := by
      rcases Nat.lt_or_ge g w.heap.size with h' | h'
      · exact h'
      · simp [Array.getElem?_eq_none h'] at h
    rw [hk.block g hlt]; exact h

/-- The first l.length bytes of the 32 are l. -/
def Room (W : World) (g : Nat) (w : World) (v : Value) (l : List UInt8) : Prop :=
  Came W 1 (some ⟨g, 0, none⟩) g 0 0 32 [] ∧ Upon W 5 1 (some ⟨g, 0, none⟩) g 0 0 32 [] w v l.length (Lib.byteCells l) l.length ∧ l.length ≤ 32

theorem bc_len (l : List UInt8) : (Lib.byteCells l).length = l.length := Lib.byteCells_length l
theorem bc_get (l : List UInt8) (j : Nat) (hj : j < l.length) : (Lib.byteCells l)[j]? = some (.int .u8 (l[j].toNat : Int)) := by simp [Lib.byteCells, hj]

theorem nDigits20 (u : Nat) (h : u < 18446744073709551616) : Lib.nDigits u ≤ 20 := by
  rcases Nat.eq_zero_or_pos u with rfl | h1
  · rw [Lib.nDigits_small (by omega)]; omega
  · have := Lib.numDigits_eq u h1 h
    split at this <;> omega

theorem Room.start (w : World) (cs : Array Value) (hcs : cs.size = 32) : Room (w.alloc (.cells cs 47)) w.heap.size (w.alloc (.cells cs 47)) (.slice (some ⟨w.heap.size, 0, none⟩) 0 32) [] := by
  have hc : Came (w.alloc (.cells cs 47)) 1 (some ⟨w.heap.size, 0, none⟩) w.heap.size 0 0 32 [] := by
    refine ⟨by omega, fun _ => rfl, fun _ => by simp, rfl, by simp, fun j hj => ?_⟩
    have hh : (w.alloc (.cells cs 47)).heap[w.heap.size]? = some (.cells cs 47 (0, 0)) := heap_alloc_new w _
    have hj' : j < cs.size := by omega
    constructor
    · rw [Nat.zero_mul, Nat.add_zero, Nat.zero_add, Lib.cell_of_heap hh]; simp [hj']
    · exact Lib.frozen_of_heap hh _
  exact ⟨hc, Upon.start hc, by simp⟩

section
variable {W : World} {g : Nat} {w : World} {v : Value} {l : List UInt8}

theorem Room.value (h : Room W g w v l) : v = .slice (some ⟨g, 0, none⟩) l.length 32 ∧ ∀ j (hj : j < l.length), w.cell? ⟨g, j, none⟩ = some (.int .u8 (l[j].toNat : Int)) := by
  obtain ⟨hc, hu, hl⟩ := h
  have hv : v = .slice (some ⟨g, 0, none⟩) l.length 32 := by
    rcases hu.val with ⟨_, hv, _⟩ | ⟨hlt, _⟩
    · rw [hv, Nat.zero_add]
    · omega
  refine ⟨hv, fun j hj => ?_⟩
  have := hu.written j hj
  rw [bc_get l j hj] at this
  simpa using this

theorem Room.kept (h : Room W g w v l) : Kept g W w := by
  obtain ⟨hc, hu, hl⟩ := h
  exact ⟨hu.kept.1, hu.kept.2.1, hu.kept.size, fun k hk => hu.kept.block (Nat.lt_trans hk (hc.lt (by omega))) (fun p ⟨j, hj, e⟩ => by subst e; simp [MemPlace.block]; omega)⟩

theorem Room.below {w' : World} (h : Room W g w v l) (hb : Below w.heap.size w w') : Room W g w' v l := by
  obtain ⟨hc, hu, hl⟩ := h
  exact ⟨hc, hu.carry hc hb.os hb.output (fun i hi => hb.block i (Nat.lt_of_lt_of_le hi hu.kept.size)) (fun k _ hk => hb.block k hk), hl⟩
end

theorem room_law {W : World} {g : Nat} {w : World} {v : Value} {l : List UInt8} {ops : Array Oper} {rest : List Oper} {o : Oper} {a : Act} {Q : Exit → Act → World → Prop}
    (hgd : o.guard = none) (s x : Operand) (tx : TypeId) (ho : o.op = .call { callee := .builtin .append, args := #[s, x], argTypes := #[26, tx] })
    (hv : a.eval s = v) (h : Room W g w v l) (xv : Value) (news : List UInt8) (hx : a.eval x = xv) (hs : Src Tryd.prog 1 tx xv news.length (Lib.byteCells news) w)
    (hb : l.length + news.length ≤ 32)
    (hK : ∀ v' w', Room W g w' v' (l ++ news) → wpList Tryd.prog ops Q rest (a.put o.dst v') w') : wpList Tryd.prog ops Q (o :: rest) a w := by
  obtain ⟨hc, hu, hl⟩ := h
  obtain ⟨i0, hi, hz0, hz1, hz2⟩ := info_parts info5
  refine wpList_append_upon w hgd s x 26 tx ho hc i0 (.int .u8 0) 1 Tryd.underlying26 hi hz0 hz1 hz2 rfl hv hu xv news.length (Lib.byteCells news) hx hs (by unfold maxLen; omega) (by omega) ?_
  intro v' w' hu'
  refine hK v' w' ⟨hc, ?_, by simp; omega⟩
  have e : Upon.next 0 32 1 l.length l.length news.length = l.length + news.length := by unfold Upon.next; split <;> omega
  rw [e] at hu'
  simpa [Lib.byteCells] using hu'

/-- append(written, c) -/
theorem room1 {W : World} {g : Nat} {w : World} {v : Value} {l : List UInt8} {ops : Array Oper} {rest : List Oper} {o : Oper} {a : Act} {Q : Exit → Act → World → Prop} (c : UInt8) {z : Int} (hz : z = (c.toNat : Int))
    (hgd : o.guard = none) (s x : Operand) (ho : o.op = .call { callee := .builtin .append, args := #[s, x], argTypes := #[26, 26] })
    (hv : a.eval s = v) (h : Room W g w v l) {k : Nat} (hx : a.eval x = .slice (some ⟨k, 0, none⟩) 1 1) (hk : k = w.heap.size)
    (hb : l.length + 1 ≤ 32)
    (hK : ∀ v' w', Room W g w' v' (l ++ [c]) → wpList Tryd.prog ops Q rest (a.put o.dst v') w') : wpList Tryd.prog ops Q (o :: rest) a (w.alloc (.cells #[.int .u8 z] 5)) := by
  subst hz
  subst hk
  refine room_law hgd s x 26 ho hv (h.below ((Below.refl _ _).alloc (Nat.le_refl _) _)) _ [c] hx (Src.ofSlice _ Tryd.underlying26 _ 1 1 _ (by simp [Lib.byteCells]) ?_ (by simp [Lib.byteCells, Value.oneCell'])) hb hK
  intro j u hj
  match j, hj with
  | 0, hj => simp [Lib.byteCells] at hj; subst hj; simp [Addr.add]

set_option maxHeartbeats 4000000 in
set_option maxRecDepth 100000 in
theorem appendUint_small {W : World} {g : Nat} {w : World} {v : Value} {l : List UInt8} (u : Nat) (hu : u < 100) (h : Room W g w v l) (hb : l.length + 20 ≤ 32) :
    Calls Tryd.prog 29 #[v, .int .u64 u, .int .i64 10] w fun e w' => ∃ v', e = .returned v' ∧ Room W g w' v' (l ++ Lib.decDigits u) := by
  have hlen : (Lib.decDigits u).length ≤ 20 := by rw [Lib.decDigits_length]; exact nDigits20 u (by omega)
  have HR := hid h
  have K := hid (Tryd.internal_strconv_small u hu)
  have iu : (u : Int) < 100 := by omega
  have HL := hid hlen
  clear h hlen hu
  go_enter Tryd.func29, Tryd.ntmps29
  go_wp2_with (first
    | (go_at_call 34; refine (K.out _).mono ?_; rintro e w' ⟨rfl, rfl⟩)
    | (at_builtin; refine room_law rfl (.tmp 13) (.tmp 16) 9 rfl rfl HR.out _ (Lib.decDigits u) rfl (Src.ofString _ Tryd.underlying9 ⟨(Lib.decDigits u).toArray⟩) (by have := HL.out; omega) ?_; intro v1 w1 hr1; have HR1 := hid hr1; clear hr1))
  go_ret
  exact ⟨_, rfl, HR1.out⟩

set_option maxHeartbeats 8000000 in
set_option maxRecDepth 100000 in
theorem appendUint_big {W : World} {g : Nat} {w : World} {v : Value} {l : List UInt8} (u : Nat) (hu : 100 ≤ u) (hu64 : u < 18446744073709551616) (h : Room W g w v l) (hb : l.length + 20 ≤ 32)
    (htab : Lib.TabIs Tryd.prog w pn .u64 Lib.pow10Tab) :
    Calls Tryd.prog 29 #[v, .int .u64 u, .int .i64 10] w fun e w' => ∃ v', e = .returned v' ∧ Room W g w' v' (l ++ Lib.decDigits u) := by
  have hu1 : 1 ≤ u := by omega
  have hnd20 : Lib.nDigits u ≤ 20 := nDigits20 u hu64
  have hal : Tryd.prog.arrayLen 57 = 24 := by simp [Program.arrayLen, Tryd.underlying57]
  have hsl : ∀ W, (Instr.sliceAt 57 (.pointer (some ⟨w.heap.size, 0, none⟩)) none (some (.int .i64 (Lib.nDigits u : Int))) none).run Tryd.prog W = .ok (.slice (some ⟨w.heap.size, 0, none⟩) (Lib.nDigits u) 24) W := fun W => by
    rw [run_sliceAt_array_h W 57 ⟨w.heap.size, 0, none⟩ (by simp [Program.arrayLen, Program.elem, Tryd.underlying57]) .i64 (Lib.nDigits u : Int) (by omega) (by rw [hal]; omega)]
    go_simp
  have hH0 := Lib.holds_zero0 w 57 (Lib.nDigits u) (by omega)
  have hfmt := Tryd.internal_strconv_formatBase10 w.heap.size 0 24 u (Array.replicate (Lib.nDigits u) 0) (w.alloc (.cells Lib.zeros24 57)) hH0 (by rw [Array.size_replicate]; exact Lib.lt_pow_nDigits u) hu64 (by rw [Array.size_replicate]; omega)
  rw [Array.size_replicate] at hfmt
  have HH0 := hid hH0
  have HF := hid hfmt
  have HR := hid h
  have KD := hid (Any.internal_strconv_numDigits Tryd.laysM284 u hu1 hu64 (w.alloc (.cells Lib.zeros24 57)) (Lib.tabIs_alloc htab _))
  have iu : (100 : Int) ≤ (u : Int) := by omega
  clear hH0 hal hfmt h htab
  go_enter Tryd.func29, Tryd.ntmps29
  go_wp2_with fail
  refine KD.out.mono ?_
  rintro e w' ⟨rfl, hw'⟩
  subst hw'
  go_wp2_with fail
  refine HF.out.mono ?_
  rintro e w' ⟨rfl, k, v', dk, rfl, hF⟩
  have hcells : ∀ j u', (Lib.byteCells (Lib.decDigits u))[j]? = some u' → ((putRow (fun (b : UInt8) => Value.int .u8 (b.toNat : Int)) (w.alloc (.cells Lib.zeros24 57)) w.heap.size 0 dk).drewN k).cell? ((⟨w.heap.size, 0, none⟩ : Addr).add j) = some u' := by
    intro j u' hj
    have hjl : j < (Lib.decDigits u).length := by
      have h5 := (List.getElem?_eq_some_iff.1 hj).1
      rwa [Lib.byteCells_length] at h5
    rw [bc_get _ j hjl] at hj
    cases hj
    rw [Lib.row_is_numeral hF j hjl, Lib.add_plain, World.cell?_drewN]
    exact cell?_putRow (fun (b : UInt8) => Value.int .u8 (b.toNat : Int)) _ w.heap.size 0 _ dk HH0.out (by rw [hF.size, Array.size_replicate]) j (by rw [hF.size]; rw [Lib.decDigits_length] at hjl; exact hjl)
  obtain ⟨os, eo⟩ := Lib.fin_at w (.cells Lib.zeros24 57) dk k 0
  have hroom2 : Room W g ((putRow (fun (b : UInt8) => Value.int .u8 (b.toNat : Int)) (w.alloc (.cells Lib.zeros24 57)) w.heap.size 0 dk).drewN k) v l := by
    rw [eo]; exact HR.out.below (Lib.below_grow w.heap.size w (Nat.le_refl _) k os)
  generalize (putRow (fun (b : UInt8) => Value.int .u8 (b.toNat : Int)) (w.alloc (.cells Lib.zeros24 57)) w.heap.size 0 dk).drewN k = W2 at hcells hroom2 ⊢
  have HC2 := hid hcells
  have HR2 := hid hroom2
  clear eo HH0 HF KD hcells hroom2 hF
  have hdl : (Lib.decDigits u).length = Lib.nDigits u := Lib.decDigits_length u
  have HDL := hid hdl
  clear hdl
  go_wp2_with (at_builtin; refine room_law rfl (.tmp 24) (.tmp 26) 26 rfl rfl HR2.out _ (Lib.decDigits u) rfl (by rw [HDL.out]; exact Src.ofSlice _ Tryd.underlying26 ⟨w.heap.size, 0, none⟩ (Lib.nDigits u) 24 _ (by rw [bc_len, HDL.out, Nat.mul_one]) HC2.out (fun u' hu' => by simp only [Lib.byteCells, List.mem_map] at hu'; obtain ⟨b, _, rfl⟩ := hu'; rfl)) (by rw [HDL.out]; omega) ?_; intro v1 w1 hr1; have HR1 := hid hr1; clear hr1)
  go_ret
  exact ⟨_, rfl, HR1.out⟩

theorem appendUint_any {W : World} {g : Nat} {w : World} {v : Value} {l : List UInt8} (u : Nat) (hu64 : u < 18446744073709551616) (h : Room W g w v l) (hb : l.length + 20 ≤ 32)
    (htab : Lib.TabIs Tryd.prog w pn .u64 Lib.pow10Tab) :
    Calls Tryd.prog 29 #[v, .int .u64 u, .int .i64 10] w fun e w' => ∃ v', e = .returned v' ∧ Room W g w' v' (l ++ Lib.decDigits u) := by
  by_cases hu : u < 100
  · exact appendUint_small u hu h hb
  · exact appendUint_big u (by omega) hu64 h hb htab

theorem appendUint_pub {W : World} {g : Nat} {w : World} {v : Value} {l : List UInt8} (u : Nat) (hu64 : u < 18446744073709551616) (h : Room W g w v l) (hb : l.length + 20 ≤ 32)
    (htab : Lib.TabIs Tryd.prog w pn .u64 Lib.pow10Tab) :
    Calls Tryd.prog 25 #[v, .int .u64 u, .int .i64 10] w fun e w' => ∃ v', e = .returned v' ∧ Room W g w' v' (l ++ Lib.decDigits u) := by
  have K := hid (appendUint_any u hu64 h hb htab)
  clear h htab
  go_enter Tryd.func25, Tryd.ntmps25
  go_wp2_with fail
  refine K.out.mono ?_
  rintro e w' ⟨v', rfl, hr⟩
  have HR := hid hr
  clear hr
  go_wp2_with fail
  go_ret
  exact ⟨_, rfl, HR.out⟩

end Go.Proofs.Qxb6601769aDoor.M
