/-
  WALK: ZZdateTimeFields.
-/
import Derived.Test.Qxb6601586aDtH
namespace Go.Proofs.Qxb6601586a.Dt
open Go.RowKit

theorem dtf_len (l : List UInt8) : (dtf l).1.length = 7 := by
  unfold dtf
  split
  · exact compact_len _ _
  · exact go_len _ _ _ _ rfl

set_option maxRecDepth 100000 in
set_option maxHeartbeats 2000000 in
theorem zzdtf_any (s : ByteArray) (w : World) (hs : s.size ≤ maxLen) :
    Calls Try.prog 15 #[.string s] w fun e w' => e = .returned (.tuple #[.agg (rowOf (dtf s.data.toList).1).toArray, .bool (dtf s.data.toList).2]) ∧ Below w.heap.size w w' := by
  have HC := hide (fun w => dtf_any s w hs)
  have hl7 := dtf_len s.data.toList
  generalize dtf s.data.toList = R at *
  have HV := hide (fun w => convert_any R.1 hl7 w)
  have hfs := hide (size7 R.1 hl7)
  have hone := hide (rowOf_one R.1)
  have z7 := hide z7size
  go_enter Try.func15, Try.ntmps15
  go_wp2_with fail
  refine (HC.out _).mono ?_; rintro e w1 ⟨rfl, hb1⟩
  obtain ⟨r0, hb, hsz⟩ : Row w1 w.heap.size (rowOf zero7) 28 ∧ Below w.heap.size w w1 ∧ w.heap.size < w1.heap.size := by
    have hz : (w.alloc (.cells (rowOf zero7).toArray 28)).heap.size = w.heap.size + 1 := by simp
    have h1 : Below (w.heap.size + 1) (w.alloc (.cells (rowOf zero7).toArray 28)) w1 := by rw [← hz]; exact hb1
    exact ⟨(Row.new w (rowOf zero7) 28 _ rfl).below h1 (by omega), ((Below.refl _ _).alloc (Nat.le_refl _) _).trans (h1.mono (by omega)), by have := h1.size; omega⟩
  clear hb1 HC
  replace r0 := hide r0
  go_wp2_with (first | (refine wpList_store_row rfl 45 (.tmp 4) _ rfl w1.heap.size (rowOf R.1).toArray rfl rfl 45 (rowOf zero7).toArray ?_ ?_ ?_ hone.out ?_) | (refine wpList_load_row rfl 45 (.tmp 4) rfl w1.heap.size rfl 45 (rowOf R.1).toArray (0, 0) _ ?_ Try.underlying45 rfl ?_ ?_))
  · exact Row.new w1 (rowOf zero7) 45 _ rfl
  · rw [hfs.out]; kernel_rfl
  · rw [hfs.out]; exact z7.out
  · exact (Row.new w1 (rowOf zero7) 45 _ rfl).setRow (rowOf R.1)
  · rw [hfs.out]; kernel_rfl
  refine (HV.out _).mono ?_; rintro e w2 ⟨rfl, hb2⟩
  obtain ⟨r2, hb3⟩ : Row w2 w.heap.size (rowOf zero7) 28 ∧ Below w.heap.size w w2 := by
    have hz : ((w1.alloc (.cells (rowOf zero7).toArray 45)).setRow w1.heap.size (rowOf R.1).toArray).heap.size = w1.heap.size + 1 := by simp
    have h1 : Below (w1.heap.size + 1) ((w1.alloc (.cells (rowOf zero7).toArray 45)).setRow w1.heap.size (rowOf R.1).toArray) w2 := by rw [← hz]; exact hb2
    have hb4 := below_setRow ((hb.alloc (by omega) (.cells (rowOf zero7).toArray 45))) w1.heap.size (by omega) (rowOf R.1).toArray
    exact ⟨((r0.out.alloc _ (by omega)).setRowOther w1.heap.size _ (by omega)).below h1 (by omega), hb4.trans (h1.mono (by omega))⟩
  clear hb2 HV
  replace r2 := hide r2
  go_wp2_with (refine wpList_store_row rfl 28 (.tmp 2) _ rfl w.heap.size (rowOf R.1).toArray rfl rfl 28 (rowOf zero7).toArray ?_ ?_ ?_ hone.out ?_)
  · exact r2.out
  · rw [hfs.out]; kernel_rfl
  · rw [hfs.out]; exact z7.out
  exact ret_row2 rfl w.heap.size 28 (rowOf R.1) _ rfl (r2.out.setRow _) Try.underlying28 rfl (by rw [hfs.out]; kernel_rfl) rfl ⟨rfl, below_setRow hb3 w.heap.size (by omega) (rowOf R.1).toArray⟩

/-! ### zzPunct -/
set_option maxRecDepth 100000 in
set_option maxHeartbeats 1000000 in
theorem zzPunct_any (c : UInt8) (w : World) :
    Calls Try.prog 18 #[.int .u8 c.toNat] w fun e w' => e = .returned (.bool (punct c)) ∧ w' = w := by
  by_cases h1 : (c.toNat : Int) ≤ 32
  · have HP : Hid (punct c = false) := by unfold Hid punct; rw [show decide (32 < c.toNat) = false from decide_eq_false (by omega)]; simp
    go_enter Try.func18, Try.ntmps18
    go_wp2
    go_ret
    exact ⟨by rw [HP.out]; rfl, rfl⟩
  by_cases h2 : (127 : Int) ≤ (c.toNat : Int)
  · have HP : Hid (punct c = false) := by unfold Hid punct; rw [show decide (c.toNat < 127) = false from decide_eq_false (by omega)]; simp
    go_enter Try.func18, Try.ntmps18
    go_wp2
    go_ret
    exact ⟨by rw [HP.out]; rfl, rfl⟩
  cases hd : Num.isD c
  · by_cases h3 : (97 : Int) ≤ (c.toNat : Int)
    · by_cases h4 : (c.toNat : Int) ≤ 122
      · have HP : Hid (punct c = false) := by unfold Hid punct; rw [show decide (97 ≤ c.toNat) = true from decide_eq_true (by omega), show decide (c.toNat ≤ 122) = true from decide_eq_true (by omega)]; simp
        go_enter Try.func18, Try.ntmps18
        go_wp2_with (go_at_call 12; refine (zzIsDigit_any _ _).mono ?_; rintro e w' ⟨rfl, rfl⟩)
        go_ret
        exact ⟨by rw [HP.out]; rfl, rfl⟩
      · have HP : Hid (punct c = true) := by unfold Hid punct; rw [hd]; simp; omega
        go_enter Try.func18, Try.ntmps18
        go_wp2_with (go_at_call 12; refine (zzIsDigit_any _ _).mono ?_; rintro e w' ⟨rfl, rfl⟩)
        go_ret
        exact ⟨by rw [HP.out]; rfl, rfl⟩
    · by_cases h5 : (65 : Int) ≤ (c.toNat : Int)
      · by_cases h6 : (c.toNat : Int) ≤ 90
        · have HP : Hid (punct c = false) := by unfold Hid punct; rw [show decide (65 ≤ c.toNat) = true from decide_eq_true (by omega), show decide (c.toNat ≤ 90) = true from decide_eq_true (by omega)]; simp
          go_enter Try.func18, Try.ntmps18
          go_wp2_with (go_at_call 12; refine (zzIsDigit_any _ _).mono ?_; rintro e w' ⟨rfl, rfl⟩)
          go_ret
          exact ⟨by rw [HP.out]; rfl, rfl⟩
        · have HP : Hid (punct c = true) := by unfold Hid punct; rw [hd]; simp; omega
          go_enter Try.func18, Try.ntmps18
          go_wp2_with (go_at_call 12; refine (zzIsDigit_any _ _).mono ?_; rintro e w' ⟨rfl, rfl⟩)
          go_ret
          exact ⟨by rw [HP.out]; rfl, rfl⟩
      · have HP : Hid (punct c = true) := by unfold Hid punct; rw [hd]; simp; omega
        go_enter Try.func18, Try.ntmps18
        go_wp2_with (go_at_call 12; refine (zzIsDigit_any _ _).mono ?_; rintro e w' ⟨rfl, rfl⟩)
        go_ret
        exact ⟨by rw [HP.out]; rfl, rfl⟩
  · have HP : Hid (punct c = false) := by unfold Hid punct; rw [hd]; simp
    go_enter Try.func18, Try.ntmps18
    go_wp2_with (go_at_call 12; refine (zzIsDigit_any _ _).mono ?_; rintro e w' ⟨rfl, rfl⟩)
    go_ret
    exact ⟨by rw [HP.out]; rfl, rfl⟩

/-! ### zzSame: two equal fields -/
set_option maxHeartbeats 1000000 in
theorem zzSame_eq (a b c : Int) (w : World) :
    Calls Try.prog 17 #[.agg #[.int .i64 a, .int .i64 b, .int .u8 c], .agg #[.int .i64 a, .int .i64 b, .int .u8 c]] w fun e w' => e = .returned (.bool true) ∧ w' = (w.alloc (.cells #[.int .i64 a, .int .i64 b, .int .u8 c] 27)).alloc (.cells #[.int .i64 a, .int .i64 b, .int .u8 c] 32) := by
  go_enter Try.func17, Try.ntmps17
  go_wp2
  go_ret
  exact ⟨rfl, rfl⟩
end Go.Proofs.Qxb6601586a.Dt
