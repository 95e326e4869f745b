/-
  WALKS: ZZPlainWords, FnPlainWordsIdempotent.
-/
import Derived.Test.Qxb6601728aPw
namespace Go.Proofs.Qxb6601728a
open Go.RowKit
set_option linter.unusedVariables false

/-- what ZZPlainWords answers -/
def ZzEnd (s : ByteArray) (pos : Nat) (depth : Int) (w : World) (e : Ending) (w' : World) : Prop :=
  ∃ q : Nat, e = .returned (.tuple #[.string s, .int .i64 q, .int .i64 depth]) ∧ pos ≤ q ∧ (q - pos) % 8 = 0 ∧ q ≤ 9223372036854775807 ∧ Stop s q ∧ (Stop s pos → q = pos) ∧ Grown w w'

set_option maxRecDepth 100000 in
set_option maxHeartbeats 2000000 in
theorem zz_run (s : ByteArray) (pos : Nat) (depth : Int) (hs : s.size ≤ 1048576) (hp : pos ≤ 9223372036854775807) (w : World) :
    Calls Try.prog 19 #[.string s, .int .i64 pos, .int .i64 depth] w fun e w' => ZzEnd s pos depth w e w' := by
  have HP := hide (fun W c0 c1 f1 => pw_run s pos hs hp w.heap.size W c0 c1 f1)
  go_enter Try.func19, Try.ntmps19
  go_wp2_with fail
  refine (HP.out _ (by rw [World.cell?_alloc_at _ _ _ _ rfl]; rfl) (by rw [World.cell?_alloc_at _ _ _ _ rfl]; rfl) (World.frozen?_alloc_at _ _ _ _ rfl)).mono ?_
  rintro e w1 ⟨rfl, q, n, h1, h2, h3, h4, h5, rfl⟩
  replace h2 := hide h2
  replace h4 := hide h4
  replace h5 := hide h5
  rw [World.setCell_alloc_at _ _ _ _ _ rfl]
  go_wp2
  go_quiet (fail)
  go_wp2
  go_ret3
  exact ⟨q, rfl, h1, h2.out, h3, h4.out, h5.out, (Grown.refl w).alloc _ _⟩

theorem grown_trans {a b c : World} (h : Grown a b) (k : Grown b c) : Grown a c :=
  ⟨World.keptBut_trans h.1 k.1, fun x => (k.2.1 x).trans (h.2.1 x), Nat.le_trans h.2.2 k.2.2⟩

theorem bytes_ok (a0 : ByteArray) (a1 a2 : Int) (h : a0.size ≤ 1048576) (w : World) :
    Calls Try.prog 20 #[.string a0, .int .i64 a1, .int .i64 a2] w fun e w' => e = .returned (.bool true) ∧ w' = w := by
  go_enter Try.func20, Try.ntmps20
  go_wp2
  go_ret
  exact ⟨rfl, rfl⟩
theorem bytes_no (a0 : ByteArray) (a1 a2 : Int) (w0 : a0.size ≤ maxLen) (h : 1048576 < a0.size) (w : World) :
    Calls Try.prog 20 #[.string a0, .int .i64 a1, .int .i64 a2] w fun e w' => e = .returned (.bool false) ∧ w' = w := by
  unfold maxLen at w0
  go_enter Try.func20, Try.ntmps20
  go_wp2
  go_ret
  exact ⟨rfl, rfl⟩

set_option maxRecDepth 100000 in
set_option maxHeartbeats 2000000 in
theorem law_walk (a0 : ByteArray) (w0 : a0.size ≤ maxLen) (a1 a2 : Int) (hb1 : a1 ≤ 9223372036854775807) (w : World) :
    Calls Try.prog 7 #[.string a0, .int .i64 a1, .int .i64 a2] w fun e w' => e = .returned (.bool true) ∧ Grown w w' := by
  have w1 := hide w0
  unfold maxLen at w0
  by_cases hb : a0.size ≤ 1048576
  · by_cases hn : a1 < 0
    · go_enter Try.func7, Try.ntmps7
      go_wp2_with fail
      refine (bytes_ok a0 _ _ hb _).mono ?_; rintro e w' ⟨rfl, rfl⟩
      go_wp2
      go_ret
      exact ⟨rfl, Grown.refl _⟩
    · obtain ⟨pos, rfl⟩ := Int.eq_ofNat_of_zero_le (show 0 ≤ a1 by omega)
      go_enter Try.func7, Try.ntmps7
      go_wp2_with fail
      refine (bytes_ok a0 _ _ hb _).mono ?_; rintro e w' ⟨rfl, rfl⟩
      go_wp2_with fail
      refine (zz_run a0 pos a2 hb (by omega) _).mono ?_
      rintro e w2 ⟨q, rfl, h1, h2, h3, h4, h5, hg⟩
      replace h2 := hide h2
      replace h4 := hide h4
      replace hg := hide hg
      clear h5
      go_wp2_with fail
      refine (zz_run a0 q a2 hb h3 _).mono ?_
      rintro e w3 ⟨q', rfl, g1, g2, g3, g4, g5, hg2⟩
      have e : q' = q := g5 h4.out
      subst e
      replace hg2 := hide hg2
      clear g1 g2 g3 g4 g5
      have t1 : (((q' : Int) - (pos : Int)) % 8 == 0) = true := beq_iff_eq.2 (by have := h2.out; omega)
      go_wp2
      go_ret
      exact ⟨rfl, grown_trans hg.out hg2.out⟩
  · go_enter Try.func7, Try.ntmps7
    go_wp2_with fail
    refine (bytes_no a0 _ _ w1.out (by omega) _).mono ?_; rintro e w' ⟨rfl, rfl⟩
    go_wp2
    go_ret
    exact ⟨rfl, Grown.refl _⟩
end Go.Proofs.Qxb6601728a
