/-
  WALK: FnToContentIsIdempotent.
-/
import Derived.Test.Qxb6601882aTi
namespace Go.Proofs.Qxb6601882a
open Go.RowKit
set_option linter.unusedVariables false

theorem bytes_ok (a : Option Addr) (n c : Nat) (a1 a2 a3 : Int) (h : n ≤ 1048576) (w : World) :
    Calls Try.prog 14 #[.slice a n c, .int .i64 a1, .int .i64 a2, .int .i64 a3] w fun e w' => e = .returned (.bool true) ∧ w' = w := by
  go_enter Try.func14, Try.ntmps14
  go_wp2
  go_ret
  exact ⟨rfl, rfl⟩
theorem bytes_no (a : Option Addr) (n c : Nat) (a1 a2 a3 : Int) (hm : n ≤ 9223372036854775807) (h : 1048576 < n) (w : World) :
    Calls Try.prog 14 #[.slice a n c, .int .i64 a1, .int .i64 a2, .int .i64 a3] w fun e w' => e = .returned (.bool false) ∧ w' = w := by
  go_enter Try.func14, Try.ntmps14
  go_wp2
  go_ret
  exact ⟨rfl, rfl⟩
/-- the ways that answer at once -/
theorem law_out (a : Option Addr) (n c : Nat) (a1 a2 a3 : Int) (hm : n ≤ 9223372036854775807) (h : ¬ (n ≤ 1048576 ∧ 0 ≤ a1 ∧ a1 ≤ n)) (w : World) :
    Calls Try.prog 4 #[.slice a n c, .int .i64 a1, .int .i64 a2, .int .i64 a3] w fun e w' => e = .returned (.bool true) ∧ w' = w := by
  by_cases h1 : n ≤ 1048576
  · by_cases h2 : a1 < 0
    · clear h
      go_enter Try.func4, Try.ntmps4
      go_wp2_with fail
      refine (bytes_ok a n c _ _ _ h1 _).mono ?_; rintro e w' ⟨rfl, rfl⟩
      go_wp2
      go_ret
      exact ⟨rfl, rfl⟩
    · have h3 : (n : Int) < a1 := by omega
      clear h
      go_enter Try.func4, Try.ntmps4
      go_wp2_with fail
      refine (bytes_ok a n c _ _ _ h1 _).mono ?_; rintro e w' ⟨rfl, rfl⟩
      go_wp2
      go_ret
      exact ⟨rfl, rfl⟩
  · clear h
    go_enter Try.func4, Try.ntmps4
    go_wp2_with fail
    refine (bytes_no a n c _ _ _ hm (by omega) _).mono ?_; rintro e w' ⟨rfl, rfl⟩
    go_wp2
    go_ret
    exact ⟨rfl, rfl⟩

/-! ### the empty text -/
theorem nul_empty (a : Option Addr) (c : Nat) (w : World) : Calls Try.prog 10 #[.slice a 0 c] w fun e w' => e = .returned (.bool false) ∧ w' = w := by
  go_enter Try.func10, Try.ntmps10
  go_wp2
  go_loop [3] (fun v3 => v3 = .int .i64 0) (fun _ => 0)
  case atStart => rfl
  case round =>
    subst hrel
    go_wp2
    go_ret
    exact ⟨rfl, rfl⟩
theorem clone_nil (w : World) : Calls Try.prog 11 #[.slice none 0 0] w fun e w' => e = .returned (.slice none 0 0) ∧ w' = w := by
  have hnil := fun w => Lib.run_eql_slice_nil (P := Try.prog) w 22 5 none 0 0 0 0 Try.underlying22
  go_enter Try.func11, Try.ntmps11
  go_wp2
  go_ret
  exact ⟨rfl, rfl⟩
theorem clone_empty (x : Addr) (c : Nat) (w : World) : Calls Try.prog 11 #[.slice (some x) 0 c] w fun e w' => e = .returned (.slice (some ⟨w.heap.size, 0, none⟩) 0 0) ∧ w' = w.alloc (.cells (cl [] 0).toArray 5) := by
  have hnil := fun w => Lib.run_eql_slice_nil (P := Try.prog) w 22 5 (some x) 0 c 0 0 Try.underlying22
  have hmk := fun w => run_make_row' (P := Try.prog) 22 5 (.int .u8 0) 1 Try.underlying22 info5 rfl .i64 .i64 0 (by omega) (by omega) w
  have e0 : madeCells #[.int .u8 0] 0 = (cl [] 0).toArray := cl_start []
  rw [e0] at hmk
  clear e0
  have e1 : ((0 : Nat) : Int) = 0 := rfl
  rw [e1] at hmk
  clear e1
  go_enter Try.func11, Try.ntmps11
  go_wp2
  go_loopw [4] (fun v4 wr => v4 = .int .i64 0 ∧ wr = w.alloc (.cells (cl [] 0).toArray 5)) (fun _ _ => 0)
  case atStart => exact ⟨rfl, rfl⟩
  case round =>
    obtain ⟨rfl, rfl⟩ := hrel
    go_wp2
    go_ret
    exact ⟨rfl, rfl⟩

set_option maxRecDepth 100000 in
set_option maxHeartbeats 1000000 in
theorem law_nil (a2 a3 : Int) (w : World) :
    Calls Try.prog 4 #[.slice none 0 0, .int .i64 0, .int .i64 a2, .int .i64 a3] w fun e w' => e = .returned (.bool true) ∧ Below w.heap.size w w' := by
  go_enter Try.func4, Try.ntmps4
  go_wp2_with fail
  refine (bytes_ok none 0 0 _ _ _ (by omega) _).mono ?_; rintro e w' ⟨rfl, rfl⟩
  go_wp2_with fail
  refine (nul_empty none 0 _).mono ?_; rintro e w' ⟨rfl, rfl⟩
  go_wp2_with fail
  refine (clone_nil _).mono ?_; rintro e w' ⟨rfl, rfl⟩
  go_wp2_with fail
  refine (zz_nil a2 a3 _).mono ?_; rintro e w1 ⟨rfl, hb1⟩
  replace hb1 := hide hb1
  go_wp2_with fail
  refine (zz_nil a2 a3 _).mono ?_; rintro e w2 ⟨rfl, hb2⟩
  replace hb2 := hide hb2
  go_wp2
  go_ret
  exact ⟨rfl, hb1.out.trans (hb2.out.mono hb1.out.size)⟩

theorem txt_copy (L : List UInt8) (w : World) : Txt (w.alloc (.cells (cl L L.length).toArray 5)) w.heap.size L := by
  refine ⟨by simp, fun j hj => ?_⟩
  rw [World.cell?_alloc_at _ _ _ _ rfl]
  simp only [List.getElem?_toArray]
  rw [cl_at L L.length j hj, if_pos hj]
theorem txt_below {w w' : World} {g : Nat} {L : List UInt8} (h : Txt w g L) (hb : Below w.heap.size w w') : Txt w' g L :=
  ⟨by have := h.1; have := hb.size; omega, fun j hj => by rw [hb.cell (p := ⟨g, j, none⟩) h.1]; exact h.2 j hj⟩

set_option maxRecDepth 100000 in
set_option maxHeartbeats 1000000 in
theorem law_in (L : List UInt8) (p : Nat) (a2 a3 : Int) (w : World) (hl : L.length ≤ 1048576) (hp : p ≤ L.length)
    (x : Addr) (c : Nat)
    (hN : Calls Try.prog 10 #[.slice (some x) L.length c] w fun e w' => e = .returned (.bool (decide (∃ j, j < L.length ∧ at' L j = 0))) ∧ w' = w)
    (hC : Calls Try.prog 11 #[.slice (some x) L.length c] w fun e w' => e = .returned (.slice (some ⟨w.heap.size, 0, none⟩) L.length L.length) ∧ w' = w.alloc (.cells (cl L L.length).toArray 5)) :
    Calls Try.prog 4 #[.slice (some x) L.length c, .int .i64 p, .int .i64 a2, .int .i64 a3] w fun e w' => e = .returned (.bool true) ∧ Below w.heap.size w w' := by
  replace hN := hide hN
  replace hC := hide hC
  have HT := hide (txt_copy L w)
  by_cases hz : ∃ j, j < L.length ∧ at' L j = 0
  · have hd : decide (∃ j, j < L.length ∧ at' L j = 0) = true := decide_eq_true hz
    rw [hd] at hN
    clear hz hd
    go_enter Try.func4, Try.ntmps4
    go_wp2_with fail
    refine (bytes_ok _ _ _ _ _ _ hl _).mono ?_; rintro e w' ⟨rfl, rfl⟩
    go_wp2_with fail
    refine hN.out.mono ?_; rintro e w' ⟨rfl, rfl⟩
    go_wp2
    go_ret
    exact ⟨rfl, Below.refl _ _⟩
  · have hd : decide (∃ j, j < L.length ∧ at' L j = 0) = false := decide_eq_false hz
    rw [hd] at hN
    have HZ : Hid (∀ j, j < L.length → at' L j ≠ 0) := fun j hj e => hz ⟨j, hj, e⟩
    clear hz hd
    go_enter Try.func4, Try.ntmps4
    go_wp2_with fail
    refine (bytes_ok _ _ _ _ _ _ hl _).mono ?_; rintro e w' ⟨rfl, rfl⟩
    go_wp2_with fail
    refine hN.out.mono ?_; rintro e w' ⟨rfl, rfl⟩
    go_wp2_with fail
    refine hC.out.mono ?_; rintro e w1 ⟨rfl, rfl⟩
    go_wp2_with fail
    refine (zz_any L w'.heap.size L.length p a2 a3 hl hp HZ.out _ HT.out).mono ?_
    rintro e w2 ⟨q, l', s', rfl, h1, h2, h3, h4, hb1⟩
    have HT2 := hide (txt_below HT.out hb1)
    have hb0 : Below w'.heap.size w' w2 := ((Below.refl _ _).alloc (Nat.le_refl _) _).trans (hb1.mono (by simp))
    replace hb0 := hide hb0
    replace h3 := hide h3
    clear h4 hb1
    go_wp2_with fail
    refine (zz_any L w'.heap.size L.length q l' s' hl h2 HZ.out _ HT2.out).mono ?_
    rintro e w3 ⟨q2, l2, s2, rfl, g1, g2, g3, g4, hb3⟩
    obtain ⟨e1, e2, e3⟩ := g4 h3.out
    subst e1
    subst e2
    subst e3
    have hb4 := hide (hb0.out.trans (hb3.mono hb0.out.size))
    clear g1 g2 g3 g4 hb3
    go_wp2
    go_ret
    exact ⟨rfl, hb4.out⟩
end Go.Proofs.Qxb6601882a
