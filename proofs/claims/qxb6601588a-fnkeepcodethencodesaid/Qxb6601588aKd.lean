/-
  WALK: ZZNewColumn.
-/
import Derived.Test.Qxb6601588aKc
namespace Go.Proofs.Qxb6601588a
open Go.RowKit
open Go.Maps (Keyed int_keyed keyOf_int_mk)
set_option linter.unusedVariables false
set_option linter.unusedSimpArgs false

set_option maxRecDepth 100000 in
set_option maxHeartbeats 1000000 in
theorem new_dense (a1 a2 a3 a4 a5 a6 : Option Addr) (n1 n2 n3 n4 n5 n6 : Nat) (w : World) :
    Calls Try.prog 9 #[.bool false, .slice a1 n1 n1, .slice a2 n2 n2, .slice a3 n3 n3, .slice a4 n4 n4, .slice a5 n5 n5, .slice a6 n6 n6] w
      fun e w' => e = .returned (.pointer (some ⟨w.heap.size, 0, none⟩)) ∧ w' = w.alloc (.cells (colRow (.slice a1 n1 n1) (.slice a2 n2 n2) (.map none)).toArray 43) := by
  go_enter Try.func9, Try.ntmps9
  go_wp2
  go_ret
  exact ⟨rfl, rfl⟩

/-- what the filling loop keeps -/
def Fill (cd ps : Value) (n : Nat) (w wr : World) (j : Nat) : Prop :=
  ∃ D, wr.ownsMap Try.prog 21 Rc (w.heap.size + 1) j D ∧ Row wr w.heap.size (colRow cd ps (.map none)) 43 ∧ Below w.heap.size w wr ∧ j ≤ n
/-- what a sparse column is behind its making -/
def NewPost (cd ps : Value) (n : Nat) (w : World) (e : Ending) (w' : World) : Prop :=
  e = .returned (.pointer (some ⟨w.heap.size, 0, none⟩)) ∧ (∃ D, w'.ownsMap Try.prog 21 Rc (w.heap.size + 1) n D) ∧ Row w' w.heap.size (colRow cd ps (.map (some (w.heap.size + 1)))) 43 ∧ Below w.heap.size w w'

theorem Fill.start (cd ps : Value) (n : Nat) (w : World) : Fill cd ps n w ((w.alloc (.cells (colRow cd ps (.map none)).toArray 43)).alloc (.map #[] 0)) 0 := by
  have h := World.ownsMap_made (w.alloc (.cells (colRow cd ps (.map none)).toArray 43)) Try.prog 21 Rc
  rw [World.size_alloc] at h
  exact ⟨_, h, (Row.new w _ 43 _ rfl).alloc _ (by simp), ((Below.refl _ _).alloc (Nat.le_refl _) _).alloc (by simp) _, Nat.zero_le _⟩

set_option maxRecDepth 100000 in
set_option maxHeartbeats 2000000 in
theorem new_sparse (a1 a2 : Option Addr) (n1 n2 n g3 g4 g5 g6 : Nat) (zk : Nat → Int) (zf : Nat → Nat) (zc zp : Nat → Int) (hn : n ≤ 1048576) (w : World)
    (wk : ∀ j, j < n → (Lit.int .i32 (zk j)).wf = true)
    (r3 : Row w g3 ((List.range n).map fun j => .int .i32 (zk j)) 21) (r4 : Row w g4 ((List.range n).map fun j => .float .f64 (zf j)) 27) (r5 : Row w g5 ((List.range n).map fun j => .int .u8 (zc j)) 5) (r6 : Row w g6 ((List.range n).map fun j => .int .i32 (zp j)) 21) :
    Calls Try.prog 9 #[.bool true, .slice a1 n1 n1, .slice a2 n2 n2, .slice (some ⟨g3, 0, none⟩) n n, .slice (some ⟨g4, 0, none⟩) n n, .slice (some ⟨g5, 0, none⟩) n n, .slice (some ⟨g6, 0, none⟩) n n] w
      (NewPost (.slice a1 n1 n1) (.slice a2 n2 n2) n w) := by
  have hmk := fun w => mk_map n w
  have HR3 := hide r3
  have HR4 := hide r4
  have HR5 := hide r5
  have HR6 := hide r6
  have l3 := r3.lt
  have l4 := r4.lt
  have l5 := r5.lt
  have l6 := r6.lt
  replace wk := hide wk
  clear r3 r4 r5 r6
  have HF := hide (Fill.start (.slice a1 n1 n1) (.slice a2 n2 n2) n w)
  go_enter Try.func9, Try.ntmps9
  go_wp2
  go_loopw [17] (fun v17 wr => ∃ j : Nat, Fill (.slice a1 n1 n1) (.slice a2 n2 n2) n w wr j ∧ v17 = .int .i64 j) (fun v17 _ => n - (intOf v17).toNat)
  case atStart => exact ⟨0, HF.out, rfl⟩
  case round =>
    obtain ⟨j, ⟨D, hM, hC, hB, hjn⟩, rfl⟩ := hrel
    clear hmk HF
    have hlt := hC.lt
    by_cases hj : j < n
    · have e3 : wr.cell? ⟨g3, j, none⟩ = some (.int .i32 (zk j)) := by rw [(HR3.out.below hB l3).cell j]; simp [hj]
      have e4 : wr.cell? ⟨g4, j, none⟩ = some (.float .f64 (zf j)) := by rw [(HR4.out.below hB l4).cell j]; simp [hj]
      have e5 : wr.cell? ⟨g5, j, none⟩ = some (.int .u8 (zc j)) := by rw [(HR5.out.below hB l5).cell j]; simp [hj]
      have e6 : wr.cell? ⟨g6, j, none⟩ = some (.int .i32 (zp j)) := by rw [(HR6.out.below hB l6).cell j]; simp [hj]
      obtain ⟨w1, hup, hM1, hg1⟩ := hM.drew.update keyLaw Try.underlying41 (show j < maxLen by unfold maxLen; omega) (keyOf_int_mk Try.underlying21 (wk.out j hj)) (Rc_mk (zf j) (zc j) (zp j))
      have hC1 : Row w1 w.heap.size (colRow (.slice a1 n1 n1) (.slice a2 n2 n2) (.map none)) 43 := by
        have h1 := hC.drew
        have h2 := h1.lt
        unfold Row at h1 ⊢
        rw [hg1.block w.heap.size h2 (by simp)]
        exact h1
      have hB1 : Below w.heap.size w w1 := hB.drew.grown hg1 (by have := hB.size; exact this) (fun k hk => by cases hk; omega)
      have HN : Hid (Fill (.slice a1 n1 n1) (.slice a2 n2 n2) n w w1 (j + 1)) := ⟨_, hM1, hC1, hB1, hj⟩
      have hji : (j : Int) < (n : Int) := by omega
      replace hM := hide hM
      replace hC := hide hC
      replace hB := hide hB
      clear hM1 hC1 hB1 hg1
      go_wp2
      go_region
      go_wp2
      go_roundw
      case rel =>
        go_light
        exact ⟨j + 1, HN.out, by go_num⟩
      case measure => simp [intOf]; omega
    · have hje : j = n := by omega
      subst hje
      have c8 : wr.cell? ⟨w.heap.size, 8, none⟩ = some (.map none) := hC.cell 8
      have f8 := hC.frozen 8
      have HS := hide (hC.setCell 8 (.map (some (w.heap.size + 1))))
      have HM := hide (hM.setCell (a := ⟨w.heap.size, 8, none⟩) (by simp) (.map (some (w.heap.size + 1))))
      have HB := hide (hB.setCell (p := ⟨w.heap.size, 8, none⟩) (Nat.le_refl _) (.map (some (w.heap.size + 1))))
      replace hM := hide hM
      replace hC := hide hC
      replace hB := hide hB
      go_wp2
      go_ret
      exact ⟨rfl, ⟨_, HM.out⟩, HS.out, HB.out⟩
end Go.Proofs.Qxb6601588a
