/-
  WALK: digitField.
-/
import Derived.Test.Qxb6601586aNumX
import Derived.Test.Qxb6601586aDt
namespace Go.Proofs.Qxb6601586a.Dt
open Go.RowKit

/-- a field in three cells -/
def Fld.arr (f : Fld) : Array Value := #[.int .i64 f.n, .int .i64 f.w, .int .u8 f.s]

theorem run_no (s : ByteArray) (k : Nat) (f : Fld) (h : k < s.size) (hd : Num.isD s[k] = false) : run f (s.data.toList.drop k) = f := by
  rw [drop_cons s k h]; simp [run, hd]
theorem run_yes (s : ByteArray) (k : Nat) (f : Fld) (h : k < s.size) (hd : Num.isD s[k] = true) : run f (s.data.toList.drop k) = run (f.push s[k]) (s.data.toList.drop (k + 1)) := by
  rw [drop_cons s k h]; simp [run, hd]
theorem run_end (s : ByteArray) (k : Nat) (f : Fld) (h : s.size ≤ k) : run f (s.data.toList.drop k) = f := by
  rw [drop_none s k h]; rfl

/-- the block of a field that is being read -/
def fblk (n : Int) (k : Int) (c : Int) : Obj := .cells #[.int .i64 n, .int .i64 k, .int .u8 c] 44
theorem push_lo (f : Fld) (c : UInt8) (h : f.w < 6) (hc : Num.isD c = true) : (f.push c).n = f.n * 10 + (c.toNat - 48) ∧ (((f.push c).n : Nat) : Int) = (f.n : Int) * 10 + ((c.toNat : Int) - 48) % 256 ∧ (f.push c).s = f.s := by
  have hd : 48 ≤ c.toNat ∧ c.toNat ≤ 57 := by simpa [Num.isD] using hc
  unfold Fld.push
  rw [if_pos h]
  refine ⟨rfl, ?_, rfl⟩
  simp only
  omega
theorem push_mid (f : Fld) (c : UInt8) (h : f.w = 6) : (f.push c).n = f.n ∧ (f.push c).s = c.toNat := by
  unfold Fld.push
  rw [if_neg (by omega), if_pos h]
  exact ⟨rfl, rfl⟩
theorem push_hi (f : Fld) (c : UInt8) (h : 6 < f.w) : (f.push c).n = f.n ∧ (f.push c).s = f.s := by
  unfold Fld.push
  rw [if_neg (by omega), if_neg (by omega)]
  exact ⟨rfl, rfl⟩
theorem blk_eq {W : World} {a b c a' b' c' : Int} (h1 : a = a') (h2 : b = b') (h3 : c = c') :
    W.alloc (.cells #[.int .i64 a, .int .i64 b, .int .u8 c] 44) = W.alloc (.cells #[.int .i64 a', .int .i64 b', .int .u8 c'] 44) := by
  subst h1; subst h2; subst h3; rfl
theorem meas (W : World) (n k c : Int) (B : Nat) (h : B = W.heap.size) : ((W.alloc (.cells #[.int .i64 n, .int .i64 k, .int .u8 c] 44)).cell? ⟨B, 1, none⟩).getD undef = .int .i64 k := by
  rw [World.cell?_alloc_at _ _ _ _ h]; rfl

set_option maxHeartbeats 2000000 in
theorem digitField_any (s : ByteArray) (w : World) (hs : s.size ≤ maxLen) :
    Calls Try.prog 29 #[.string s] w fun e w' => e = .returned (.agg (fld s.data.toList).arr) ∧ w' = (w.alloc (.cells (fld s.data.toList).arr 44)).alloc (.cells (fld s.data.toList).arr 44) := by
  unfold maxLen at hs
  obtain ⟨R, HR⟩ : ∃ R, Hid (fld s.data.toList = R) := ⟨_, hide rfl⟩
  rw [HR.out]
  go_enter Try.func29, Try.ntmps29
  go_wp2
  go_loopw [4] (fun v4 wr => ∃ (k : Nat) (f : Fld), k ≤ s.size ∧ f.w = k ∧ f.Ok ∧ run f (s.data.toList.drop k) = R ∧ wr = (w.alloc (.cells #[.int .i64 0, .int .i64 0, .int .u8 0] 44)).alloc (.cells #[.int .i64 f.n, .int .i64 k, .int .u8 f.s] 44)) (fun _ wr => s.size - (intOf ((wr.cell? ⟨w.heap.size + 1, 1, none⟩).getD undef)).toNat)
  case atStart => exact ⟨0, fld0, by omega, rfl, ok0, HR.out, rfl⟩
  case round =>
    obtain ⟨k, f, hk, HW, HO, H1, rfl⟩ := hrel
    replace H1 := hide H1
    replace HW := hide HW
    replace HO := hide HO
    clear HR
    have hn := ok_lt f HO.out
    by_cases hlt : k < s.size
    · cases hD : Num.isD s[k]
      · have HF : Hid (R = f) := by have := H1.out; rw [run_no s k f hlt hD] at this; exact hide this.symm
        go_wp2_with (go_at_call 28; refine (isDigit_any _ _).mono ?_; rintro e w' ⟨rfl, rfl⟩)
        refine bodyPost_ret (v := .agg #[.int .i64 f.n, .int .i64 k, .int .u8 f.s]) (by simp [results, Try.results29, go_sem]) rfl ⟨?_, ?_⟩
        · rw [HF.out, ← HW.out]; rfl
        · rw [HF.out, ← HW.out]; rfl
      · have HD := hide hD
        have H2 : Hid (run (f.push s[k]) (s.data.toList.drop (k + 1)) = R) := by have := H1.out; rw [run_yes s k f hlt hD] at this; exact this
        have HO2 := hide (push_ok f s[k] hD HO.out)
        have HW2 : Hid ((f.push s[k]).w = k + 1) := by have := push_w f s[k]; rw [HW.out] at this; exact this
        by_cases h6 : k < 6
        · have HP := hide (push_lo f s[k] (by rw [HW.out]; exact h6) hD)
          go_wp2_with (go_at_call 28; refine (isDigit_any _ _).mono ?_; rintro e w' ⟨rfl, rfl⟩)
          go_roundw
          case rel => exact ⟨k + 1, f.push s[k], by omega, HW2.out, HO2.out, H2.out, blk_eq HP.out.2.1.symm (by omega) (by rw [HP.out.2.2])⟩
          case measure => rw [meas _ _ _ _ _ (by simp), meas _ _ _ _ _ (by simp)]; simp [intOf]; omega
        · by_cases h7 : k = 6
          · have HP := hide (push_mid f s[k] (by rw [HW.out]; exact h7))
            have h7' : ((k : Int) == 6) = true := beq_iff_eq.2 (by omega)
            clear h7
            go_wp2_with (go_at_call 28; refine (isDigit_any _ _).mono ?_; rintro e w' ⟨rfl, rfl⟩)
            go_roundw
            case rel => exact ⟨k + 1, f.push s[k], by omega, HW2.out, HO2.out, H2.out, blk_eq (by rw [HP.out.1]) (by omega) (by rw [HP.out.2])⟩
            case measure => rw [meas _ _ _ _ _ (by simp), meas _ _ _ _ _ (by simp)]; simp [intOf]; omega
          · have HP := hide (push_hi f s[k] (by rw [HW.out]; omega))
            have h7' : ((k : Int) == 6) = false := beq_eq_false_iff_ne.2 (by omega)
            clear h7
            go_wp2_with (go_at_call 28; refine (isDigit_any _ _).mono ?_; rintro e w' ⟨rfl, rfl⟩)
            go_roundw
            case rel => exact ⟨k + 1, f.push s[k], by omega, HW2.out, HO2.out, H2.out, blk_eq (by rw [HP.out.1]) (by omega) (by rw [HP.out.2])⟩
            case measure => rw [meas _ _ _ _ _ (by simp), meas _ _ _ _ _ (by simp)]; simp [intOf]; omega
    · have HF : Hid (R = f) := by have := H1.out; rw [run_end s k f (by omega)] at this; exact hide this.symm
      go_wp2
      refine bodyPost_ret (v := .agg #[.int .i64 f.n, .int .i64 k, .int .u8 f.s]) (by simp [results, Try.results29, go_sem]) rfl ⟨?_, ?_⟩
      · rw [HF.out, ← HW.out]; rfl
      · rw [HF.out, ← HW.out]; rfl
end Go.Proofs.Qxb6601586a.Dt
