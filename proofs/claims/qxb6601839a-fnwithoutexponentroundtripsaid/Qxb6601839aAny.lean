/-
  THE WALK of strings.IndexAny(s, "eE") where an 'e' or 'E' stands in s.
-/
import Derived.Test.Qxb6601839aRune
namespace Go.Proofs.Qxb6601839a.E
open Go.RowKit
set_option linter.unusedVariables false

theorem rune_high (r : Int) (h1 : 128 ≤ r) (h2 : r ≤ 1114111) (w : World) :
    Calls Try.prog 25 #[.string ⟨#[101, 69]⟩, .int .i32 r] w fun e w' => e = .returned (.int .i64 (-1)) ∧ Below w.heap.size w w' := by
  by_cases h : r = 65533
  · subst h; exact rune_err w
  · exact rune_other r h1 h2 h w

theorem rune_low (c : UInt8) (h1 : c.toNat < 128) (hc : isE c = false) (w : World) :
    Calls Try.prog 25 #[.string ⟨#[101, 69]⟩, .int .i32 (c.toNat : Int)] w fun e w' => e = .returned (.int .i64 (-1)) ∧ Below w.heap.size w w' := by
  refine (Try.strings_IndexRune_ascii ⟨#[101, 69]⟩ (c.toNat : Int) w (by omega) (by omega)).mono ?_
  rintro e w' ⟨rfl, rfl⟩
  refine ⟨?_, Below.refl _ _⟩
  have e1 : ((c.toNat : Int)).toNat.toUInt8 = c := by simp
  rw [e1]
  have : Lib.indexByte [101, 69] c = -1 := by
    unfold isE at hc
    simp at hc
    simp [Lib.indexByte, Ne.symm hc.1, Ne.symm hc.2]
  exact congrArg (fun z => Ending.returned (.int .i64 z)) this

theorem rune_hit (c : UInt8) (hc : isE c = true) (w : World) :
    Calls Try.prog 25 #[.string ⟨#[101, 69]⟩, .int .i32 (c.toNat : Int)] w fun e w' => ∃ z : Int, 0 ≤ z ∧ e = .returned (.int .i64 z) ∧ Below w.heap.size w w' := by
  have h128 : c.toNat < 128 := by
    unfold isE at hc
    simp at hc
    rcases hc with rfl | rfl <;> decide
  refine (Try.strings_IndexRune_ascii ⟨#[101, 69]⟩ (c.toNat : Int) w (by omega) (by omega)).mono ?_
  rintro e w' ⟨rfl, rfl⟩
  have e1 : ((c.toNat : Int)).toNat.toUInt8 = c := by simp
  rw [e1]
  refine ⟨_, ?_, rfl, Below.refl _ _⟩
  unfold isE at hc
  simp at hc
  rcases hc with rfl | rfl <;> decide

set_option maxHeartbeats 4000000 in
theorem any_short (s : ByteArray) (M : Nat) (h8 : s.size ≤ 8) (hM : M < s.size) (hE : isE s[M] = true) (hno : ∀ j (h : j < M), isE (s[j]'(by omega)) = false) (w : World) :
    Calls Try.prog 23 #[.string s, .string ⟨#[101, 69]⟩] w fun e w' => e = .returned (.int .i64 M) ∧ Below w.heap.size w w' := by
  have KA := hid (Try.strings_shouldUseASCIISet (s.size : Int) w)
  have h8z : decide ((8 : Int) < (s.size : Int)) = false := decide_eq_false (by omega)
  rw [h8z] at KA
  have HNO := hid hno
  have HE := hid hE
  have hlow : s[M].toNat < 128 := by
    unfold isE at hE
    simp at hE
    rcases hE with h | h <;> rw [h] <;> decide
  have HLOW := hid hlow
  clear hno hE hlow h8z
  go_enter Try.func23, Try.ntmps23
  go_wp2_with fail
  refine KA.out.mono ?_
  rintro e w1 ⟨rfl, rfl⟩
  clear KA
  go_wp2_with fail
  go_loopg [9, 10] M (fun g _ _ wx => ∃ i : Nat, i ≤ M ∧ M ≤ i + g ∧ wx.heap[w1.heap.size]? = some (.stringIter s i) ∧ Below w1.heap.size w1 wx)
  case atStart => exact ⟨0, Nat.zero_le _, by omega, World.iter_heap w1 s 0, (Below.refl _ _).alloc (Nat.le_refl _) _⟩
  case round =>
    obtain ⟨i, hiM, hig, hit, hbel⟩ := hrel
    have hwlt : w1.heap.size < wr.heap.size := (Array.getElem?_eq_some_iff.1 hit).1
    by_cases hlt : i < M
    · have his : i < s.size := by omega
      obtain ⟨R, W, hiR, hnx, hitR, hbelR, hRM, KR⟩ : ∃ (R : Nat) (W : World), i < R ∧ (∃ z : Int, (∀ ty, (Instr.next (.pointer (some ⟨w1.heap.size, 0, none⟩)) true ty).run Try.prog wr = .ok (.tuple #[.bool true, .int .i64 i, .int .i32 z]) W) ∧
          (∀ w, Calls Try.prog 25 #[.string ⟨#[101, 69]⟩, .int .i32 z] w fun e w' => e = .returned (.int .i64 (-1)) ∧ Below w.heap.size w w')) ∧
          W.heap[w1.heap.size]? = some (.stringIter s R) ∧ Below w1.heap.size w1 W ∧ R ≤ M ∧ True := by
        by_cases hc : (s[i]'his).toNat < 128
        · exact ⟨i + 1, _, by omega, ⟨_, fun ty => Lib.run_next_ascii_at wr w1.heap.size s i ty hit his hc, rune_low _ hc (HNO.out i hlt)⟩, Lib.iterAt_heap _ _ _ _ _ hit, Lib.below_iterAt hbel (Nat.le_refl _) _ _, by omega, trivial⟩
        · obtain ⟨a1, a2, a3, a4⟩ := decode_high s i M hlt hM (by omega) HLOW.out
          exact ⟨i + (Utf8.decode s i).2, _, by omega, ⟨_, fun ty => Lib.run_next_any_at wr w1.heap.size s i ty hit his, rune_high _ (by omega) (by omega)⟩, Lib.iterAt_heap _ _ _ _ _ hit, Lib.below_iterAt hbel (Nat.le_refl _) _ _, by omega, trivial⟩
      clear KR hit hbel
      obtain ⟨z, hnx, KR⟩ := hnx
      have HKR := hid KR
      have HIT := hid hitR
      have HB := hid hbelR
      clear KR hitR hbelR
      go_wp2_with fail
      refine (HKR.out _).mono ?_
      rintro e w2 ⟨rfl, hb2⟩
      have HB2 := hid hb2
      clear hb2 hnx
      go_wp2_with fail
      obtain ⟨g', rfl⟩ : ∃ g', gk = g' + 1 := ⟨gk - 1, by omega⟩
      go_roundg g'
      case measure => omega
      case rel =>
        have hW : w1.heap.size < W.heap.size := (Array.getElem?_eq_some_iff.1 HIT.out).1
        exact ⟨R, hRM, by omega, by rw [HB2.out.block _ hW]; exact HIT.out, HB.out.trans (HB2.out.mono (Nat.le_of_lt hW))⟩
    · obtain rfl : i = M := by omega
      have hnx := fun ty => Lib.run_next_ascii_at (P := Try.prog) wr w1.heap.size s i ty hit hM HLOW.out
      have hbR := Lib.below_iterAt hbel (Nat.le_refl _) s (i + 1)
      have HB := hid hbR
      generalize wr.iterAt w1.heap.size s (i + 1) = W at hnx HB
      have KR := hid (rune_hit s[i] HE.out)
      clear hit hbel hbR
      go_wp2_with fail
      refine (KR.out _).mono ?_
      rintro e w2 ⟨z, hz, rfl, hb2⟩
      have HB2 := hid hb2
      clear hb2 hnx
      go_wp2_with fail
      go_ret
      exact ⟨rfl, HB.out.trans (HB2.out.mono HB.out.size)⟩

theorem cont_isE (c : UInt8) : [(101 : UInt8), 69].contains c = isE c := by
  unfold isE
  rw [Bool.eq_iff_iff]
  simp

theorem any_list (pre : List UInt8) (c : UInt8) (post : List UInt8) (hE : isE c = true) (hno : ∀ d ∈ pre, isE d = false) : Lib.indexAny (pre ++ c :: post) [101, 69] = pre.length := by
  refine Lib.indexAny_hit (x := c) (fun j b hj hb => ?_) (by simp) (by rw [cont_isE]; exact hE)
  rw [cont_isE]
  rw [List.getElem?_append_left hj, List.getElem?_eq_getElem hj] at hb
  exact hno b (by rw [← Option.some.inj hb]; exact List.getElem_mem hj)

theorem info40 : (Try.prog.info? 40).map (fun i => (i.zero, i.size)) = some (some (.agg (Array.replicate 256 (.bool false))), 256) := by kernel_rfl

theorem any_any (S : ByteArray) (ml : List UInt8) (c : UInt8) (post : List UInt8) (hS : S.data.toList = ml ++ c :: post) (hE : isE c = true) (hno : ∀ d ∈ ml, isE d = false) (hsz : S.size ≤ 2000000) (w : World) :
    Calls Try.prog 23 #[.string S, .string ⟨#[101, 69]⟩] w fun e w' => e = .returned (.int .i64 ml.length) ∧ Below w.heap.size w w' := by
  have hlen : S.size = ml.length + 1 + post.length := by
    rw [Lib.size_eq, hS, List.length_append, List.length_cons]
    omega
  by_cases h8 : S.size ≤ 8
  · have hget : ∀ j (h : j < S.size), S[j] = (ml ++ c :: post)[j]'(by simp; omega) := by
      intro j h
      have : S[j] = S.data.toList[j]'(by rw [← Lib.size_eq]; exact h) := rfl
      rw [this]
      simp only [hS]
    refine any_short S ml.length h8 (by omega) ?_ ?_ w
    · rw [hget _ (by omega)]
      simpa using hE
    · intro j hj
      rw [hget _ (by omega), List.getElem_append_left hj]
      exact hno _ (List.getElem_mem hj)
  · refine (Try.strings_IndexAny_long (zero_of_info info40).1 S ⟨#[101, 69]⟩ w (by decide) (by omega) (by omega) (by decide) ?_).mono ?_
    · intro j b hb
      match j, hb with
      | 0, hb => simp at hb; subst hb; decide
      | 1, hb => simp at hb; subst hb; decide
      | j + 2, hb => simp at hb
    · rintro e w' ⟨rfl, rfl⟩
      refine ⟨?_, ((Below.refl _ _).alloc (Nat.le_refl _) _).alloc (by simp) _⟩
      have : Lib.indexAny S.data.toList [101, 69] = ml.length := by rw [hS]; exact any_list ml c post hE hno
      exact congrArg (fun z => Ending.returned (.int .i64 z)) this

end Go.Proofs.Qxb6601839a.E
