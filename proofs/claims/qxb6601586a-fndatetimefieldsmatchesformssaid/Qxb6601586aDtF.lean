/-
  WALK: compactFields at every n.
-/
import Derived.Test.Qxb6601586aDtE
namespace Go.Proofs.Qxb6601586a.Dt
open Go.RowKit

theorem z7size : (rowOf zero7).toArray.size = 21 := rfl

set_option maxRecDepth 100000 in
set_option maxHeartbeats 1000000 in
theorem compact_else (s : ByteArray) (n : Nat) (w : World) (h6 : n ≠ 6) (h12 : n ≠ 12) (h8 : n ≠ 8) (h14 : n ≠ 14) :
    Calls Try.prog 30 #[.string s, .int .i64 n] w fun e w' => e = .returned (.tuple #[.agg (rowOf zero7).toArray, .bool false]) ∧ Below w.heap.size w w' := by
  have t6 : ((n : Int) == 6) = false := beq_eq_false_iff_ne.2 (by omega)
  have t12 : ((n : Int) == 12) = false := beq_eq_false_iff_ne.2 (by omega)
  have t8 : ((n : Int) == 8) = false := beq_eq_false_iff_ne.2 (by omega)
  have t14 : ((n : Int) == 14) = false := beq_eq_false_iff_ne.2 (by omega)
  clear h6 h12 h8 h14
  have z1 := hide (rowOf_one zero7)
  go_enter Try.func30, Try.ntmps30
  go_wp2_with (first | (refine wpList_load_row rfl 45 (.tmp 6) rfl (w.heap.size + 1) rfl 45 (rowOf zero7).toArray (0, 0) _ ?_ Try.underlying45 rfl ?_ ?_) | (refine wpList_store_row rfl 45 (.tmp 4) _ rfl w.heap.size (rowOf zero7).toArray rfl rfl 45 (rowOf zero7).toArray ?_ ?_ ?_ z1.out ?_))
  · exact (Row.new _ (rowOf zero7) 45 _ (by simp)).alloc _ (by simp)
  · rw [z7size]; kernel_rfl
  · exact ((Row.new w (rowOf zero7) 45 _ rfl).alloc _ (by simp)).alloc _ (by simp <;> omega)
  · rw [z7size]; kernel_rfl
  · rfl
  refine ret_row2 rfl w.heap.size 45 (rowOf zero7) _ rfl ((((Row.new w (rowOf zero7) 45 _ rfl).alloc _ (by simp <;> omega)).alloc _ (by simp <;> omega)).setRow _) Try.underlying45 rfl (by rw [z7size]; kernel_rfl) rfl ⟨rfl, ?_⟩
  exact below_setRow ((((Below.refl _ _).alloc (by simp <;> omega) _).alloc (by simp <;> omega) _).alloc (by simp <;> omega) _) _ (by omega) _

theorem compact_any (s : ByteArray) (n : Nat) (w : World) (hs : s.size ≤ maxLen) (hn : n ≤ s.size) :
    Calls Try.prog 30 #[.string s, .int .i64 n] w fun e w' => e = .returned (.tuple #[.agg (rowOf (compact s.data.toList n).1).toArray, .bool (compact s.data.toList n).2]) ∧ Below w.heap.size w w' := by
  by_cases h6 : n = 6
  · have := compact_four s n n 2 3 w hs hn (.inl ⟨h6, rfl, rfl, by omega⟩)
    unfold compact
    rw [if_pos h6]
    exact this
  by_cases h12 : n = 12
  · have := compact_four s n n 2 6 w hs hn (.inr (.inl ⟨h12, rfl, rfl, by omega⟩))
    unfold compact
    rw [if_neg h6, if_pos h12]
    exact this
  by_cases h8 : n = 8
  · have := compact_four s n n 4 3 w hs hn (.inr (.inr (.inl ⟨h8, rfl, rfl, by omega⟩)))
    unfold compact
    rw [if_neg h6, if_neg h12, if_pos h8]
    exact this
  by_cases h14 : n = 14
  · have := compact_four s n n 4 6 w hs hn (.inr (.inr (.inr ⟨h14, rfl, rfl, by omega⟩)))
    unfold compact
    rw [if_neg h6, if_neg h12, if_neg h8, if_pos h14]
    exact this
  · have := compact_else s n w h6 h12 h8 h14
    unfold compact
    rw [if_neg h6, if_neg h12, if_neg h8, if_neg h14]
    exact this
end Go.Proofs.Qxb6601586a.Dt
