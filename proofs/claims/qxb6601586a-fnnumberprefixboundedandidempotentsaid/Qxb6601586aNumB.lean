/-
  THE WALK OF FnNumberPrefixBoundedAndIdempotent.
-/
import Derived.Test.Qxb6601586aNumX
namespace Go.Proofs.Qxb6601586a.fnNumberPrefixBoundedAndIdempotent
open Go.RowKit
set_option linter.unusedVariables false

theorem bytes_ok (a0 : ByteArray) (h : a0.size ≤ 1048576) (w : World) :
    Calls Try.prog 11 #[.string a0] w fun e w' => e = .returned (.bool true) ∧ w' = w := by
  go_enter Try.func11, Try.ntmps11
  go_wp2
  go_ret
  exact ⟨rfl, rfl⟩
theorem bytes_no (a0 : ByteArray) (w0 : a0.size ≤ maxLen) (h : 1048576 < a0.size) (w : World) :
    Calls Try.prog 11 #[.string a0] w fun e w' => e = .returned (.bool false) ∧ w' = w := by
  unfold maxLen at w0
  go_enter Try.func11, Try.ntmps11
  go_wp2
  go_ret
  exact ⟨rfl, rfl⟩
theorem take_extract (s : ByteArray) (k : Nat) : (s.extract 0 k).data.toList = s.data.toList.take k := by
  simp [ByteArray.data_extract]
theorem any_take_succ (s : ByteArray) (k : Nat) (h : k < s.size) : (s.data.toList.take (k + 1)).any Num.isD = ((s.data.toList.take k).any Num.isD || Num.isD s[k]) := by
  rw [List.take_succ_eq_append_getElem (by simpa using h)]
  simp
  rfl
theorem head_digit (s : ByteArray) (h : 0 < s.size) (hn : Num.numPre s.data.toList = 0) : Num.isD s[0] = false := by
  have e := drop_cons s 0 h
  rw [List.drop_zero] at e
  rw [e] at hn
  exact Num.numPre_zero _ _ hn

set_option maxHeartbeats 1000000 in
theorem walk (a0 : ByteArray) (w0 : a0.size ≤ maxLen) (w : World) :
    Calls Try.prog 4 #[.string a0] w fun e w' => e = .returned (.bool true) ∧ Grown w w' := by
  have w1 := hide w0
  unfold maxLen at w0
  by_cases hb : a0.size ≤ 1048576
  · have hk := Num.numPre_le a0.data.toList
    have hks : Num.numPre a0.data.toList ≤ a0.size := by simpa using hk
    clear hk
    have HT := hide (Num.numPre_take a0.data.toList)
    have HG := hide (Num.numPre_digit a0.data.toList)
    have HZ := hide (head_digit a0)
    have HA := hide (fun w => zzNumberPrefix_any a0 w w1.out)
    have HB := hide (fun w => zzNumberPrefix_any (a0.extract 0 (Num.numPre a0.data.toList)) w (extract_le a0 _ _ w1.out))
    rw [take_extract] at HB
    rw [HT.out] at HB
    generalize Num.numPre a0.data.toList = k at *
    have t1 : decide ((1048576 : Int) < (a0.size : Int)) = false := decide_eq_false (by omega)
    have t2 : decide ((k : Int) < 0) = false := decide_eq_false (by omega)
    have t3 : decide ((a0.size : Int) < (k : Int)) = false := decide_eq_false (by omega)
    go_enter Try.func4, Try.ntmps4
    go_wp2_with fail
    refine (bytes_ok a0 hb _).mono ?_; rintro e w' ⟨rfl, rfl⟩
    go_wp2_with fail
    refine (HA.out _).mono ?_; rintro e w' ⟨rfl, rfl⟩
    go_wp2_with fail
    refine (HB.out _).mono ?_; rintro e w' ⟨rfl, rfl⟩
    by_cases hk0 : k = 0
    · subst hk0
      clear HA HB HT HG
      by_cases hs : 0 < a0.size
      · have hD := HZ.out hs rfl
        have hz : ((a0.size : Int) == 0) = false := beq_eq_false_iff_ne.2 (by omega)
        clear HZ
        go_wp2_with (go_at_call 12; refine (zzIsDigit_any _ _).mono ?_; rintro e w' ⟨rfl, rfl⟩)
        go_ret
        exact ⟨rfl, Grown.refl _⟩
      · have hz : ((a0.size : Int) == 0) = true := beq_iff_eq.2 (by omega)
        clear HZ
        go_wp2
        go_ret
        exact ⟨rfl, Grown.refl _⟩
    · have hkp : 0 < k := by omega
      clear HA HB HT HZ hk0
      have t4 : ((k : Int) == 0) = false := beq_eq_false_iff_ne.2 (by omega)
      go_wp2_with fail
      go_loop [4, 5] (fun v4 v5 => ∃ j : Nat, j ≤ k ∧ v5 = .int .i64 j ∧ v4 = .bool ((a0.data.toList.take j).any Num.isD)) (fun _ v5 => k - (intOf v5).toNat)
      case atStart => exact ⟨0, by omega, rfl, rfl⟩
      case round =>
        obtain ⟨j, hj, rfl, rfl⟩ := hrel
        by_cases hlt : j < k
        · have hjs : j < a0.size := by omega
          have HS := hide (any_take_succ a0 j hjs)
          generalize (a0.data.toList.take j).any Num.isD = b at *
          cases hD : Num.isD a0[j]
          · have HD := hide hD
            go_wp2_with (go_at_call 12; refine (zzIsDigit_any _ _).mono ?_; rintro e w' ⟨rfl, rfl⟩)
            go_round
            case rel => exact ⟨j + 1, by omega, by go_num, by rw [HS.out, HD.out]; simp⟩
            case measure => simp [intOf]; omega
          · have HD := hide hD
            go_wp2_with (go_at_call 12; refine (zzIsDigit_any _ _).mono ?_; rintro e w' ⟨rfl, rfl⟩)
            go_round
            case rel => exact ⟨j + 1, by omega, by go_num, by rw [HS.out, HD.out]; simp⟩
            case measure => simp [intOf]; omega
        · have e : j = k := by omega
          subst e
          rw [HG.out hkp]
          go_wp2
          go_ret
          exact ⟨rfl, Grown.refl _⟩
  · go_enter Try.func4, Try.ntmps4
    go_wp2_with fail
    refine (bytes_no a0 w1.out (by omega) _).mono ?_; rintro e w' ⟨rfl, rfl⟩
    go_wp2
    go_ret
    exact ⟨rfl, Grown.refl _⟩

end Go.Proofs.Qxb6601586a.fnNumberPrefixBoundedAndIdempotent
