/-
  WALK: dateTimeFields, the compact way.
-/
import Derived.Test.Qxb6601586aDtF
namespace Go.Proofs.Qxb6601586a.Dt
open Go.RowKit

theorem compact_len (l : List UInt8) (n : Nat) : (compact l n).1.length = 7 := by
  have hf : ∀ m fs, fs.length = 7 → (compFin l m fs).1.length = 7 := by
    intro m fs h
    unfold compFin
    split
    · simpa using h
    · exact h
  unfold compact
  split
  · exact hf _ _ (comp_len _ _ _)
  · split
    · exact hf _ _ (comp_len _ _ _)
    · split
      · exact hf _ _ (comp_len _ _ _)
      · split
        · exact hf _ _ (comp_len _ _ _)
        · rfl

/-- the head of dateTimeFields: two rows, the callee's two blocks and the run's own -/
def W5 (w : World) (n q c : Int) : World := ((((w.alloc (.cells (rowOf zero7).toArray 45)).alloc (.cells (rowOf zero7).toArray 45)).alloc (.cells #[.int .i64 n, .int .i64 q, .int .u8 c] 44)).alloc (.cells #[.int .i64 n, .int .i64 q, .int .u8 c] 44)).alloc (.cells #[.int .i64 n, .int .i64 q, .int .u8 c] 44)
theorem W5_size (w : World) (n q c : Int) : (W5 w n q c).heap.size = w.heap.size + 5 := by simp [W5]
theorem W5_r0 (w : World) (n q c : Int) : Row (W5 w n q c) w.heap.size (rowOf zero7) 45 :=
  ((((Row.new w (rowOf zero7) 45 _ rfl).alloc _ (by simp <;> omega)).alloc _ (by simp <;> omega)).alloc _ (by simp <;> omega)).alloc _ (by simp <;> omega)
theorem W5_r1 (w : World) (n q c : Int) : Row (W5 w n q c) (w.heap.size + 1) (rowOf zero7) 45 :=
  (((Row.new _ (rowOf zero7) 45 _ (by simp)).alloc _ (by simp <;> omega)).alloc _ (by simp <;> omega)).alloc _ (by simp <;> omega)
theorem W5_below (w : World) (n q c : Int) : Below w.heap.size w (W5 w n q c) :=
  (((((Below.refl _ _).alloc (by simp <;> omega) _).alloc (by simp <;> omega) _).alloc (by simp <;> omega) _).alloc (by simp <;> omega) _).alloc (by simp <;> omega) _
theorem W5_after (w w1 : World) (n q c : Int) (h : Below (W5 w n q c).heap.size (W5 w n q c) w1) : Row w1 w.heap.size (rowOf zero7) 45 ∧ Below w.heap.size w w1 :=
  ⟨(W5_r0 w n q c).below h (by rw [W5_size]; omega), (W5_below w n q c).trans (h.mono (by rw [W5_size]; omega))⟩

set_option maxRecDepth 100000 in
set_option maxHeartbeats 2000000 in
theorem dtf_compact (s : ByteArray) (w : World) (hs : s.size ≤ maxLen)
    (h : Num.nd s.data.toList = s.size ∨ ∃ hq : Num.nd s.data.toList < s.size, 12 ≤ Num.nd s.data.toList ∧ s[Num.nd s.data.toList].toNat = 46) :
    Calls Try.prog 22 #[.string s] w fun e w' => e = .returned (.tuple #[.agg (rowOf (compact s.data.toList (Num.nd s.data.toList)).1).toArray, .bool (compact s.data.toList (Num.nd s.data.toList)).2]) ∧ Below w.heap.size w w' := by
  have hs' := hide hs
  unfold maxLen at hs
  have HD := hide (fun w => digitField_any s w hs'.out)
  simp only [Fld.arr] at HD
  have HW := hide (fld_w s.data.toList)
  have hq : Num.nd s.data.toList ≤ s.size := by have := nd_le s.data.toList; simpa using this
  have HC := hide (fun w => compact_any s (Num.nd s.data.toList) w hs'.out hq)
  have hl7 := compact_len s.data.toList (Num.nd s.data.toList)
  generalize fld s.data.toList = x at *
  generalize compact s.data.toList (Num.nd s.data.toList) = R at *
  generalize Num.nd s.data.toList = q at *
  rw [HW.out] at HD
  have hfs := hide (size7 R.1 hl7)
  have hone := hide (rowOf_one R.1)
  have z7 := hide z7size
  rcases h with h | ⟨hlt, h12, h46⟩
  case' inl =>
    have t1 : ((q : Int) == (s.size : Int)) = true := beq_iff_eq.2 (by omega)
    clear h
  case' inr =>
    have t1 : ((q : Int) == (s.size : Int)) = false := beq_eq_false_iff_ne.2 (by omega)
    have t2 : ((s[q].toNat : Int) == 46) = true := beq_iff_eq.2 (by omega)
    clear h46
  all_goals
    go_enter Try.func22, Try.ntmps22
    go_wp2_with fail
    refine (HD.out _).mono ?_; rintro e w' ⟨rfl, rfl⟩
    go_wp2_with fail
    refine (HC.out _).mono ?_; rintro e w1 ⟨rfl, hb1⟩
    obtain ⟨r0, hb⟩ := W5_after w w1 _ _ _ hb1
    replace r0 := hide r0
    clear hb1 HC HD
    go_wp2_with (refine wpList_store_row rfl 45 (.tmp 2) _ rfl w.heap.size (rowOf R.1).toArray rfl rfl 45 (rowOf zero7).toArray ?_ ?_ ?_ hone.out ?_)
    · exact r0.out
    · rw [hfs.out]; kernel_rfl
    · rw [hfs.out]; exact z7.out
    exact ret_row2 rfl w.heap.size 45 (rowOf R.1) _ rfl (r0.out.setRow _) Try.underlying45 rfl (by rw [hfs.out]; kernel_rfl) rfl ⟨rfl, below_setRow hb w.heap.size (by omega) (rowOf R.1).toArray⟩
end Go.Proofs.Qxb6601586a.Dt
