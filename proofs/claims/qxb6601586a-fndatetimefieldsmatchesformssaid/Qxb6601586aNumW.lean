/-
  WALKS: IsDigit, zzIsDigit, integerPrefix, numberPrefix.
-/
import Derived.Test.Qxb6601586aProg
import Derived.Test.Qxb6601586aNum
import Derived.WalkKit
import Derived.WalkSpells
import Derived.WalkLawsBesides
namespace Go.Proofs.Qxb6601586a
open Go.RowKit

theorem hide {p : Prop} (h : p) : Hid p := h

theorem isDigit_any (c : UInt8) (w : World) :
    Calls Try.prog 28 #[.int .u8 c.toNat] w fun e w' => e = .returned (.bool (Num.isD c)) ∧ w' = w := by
  by_cases h1 : (48 : Int) ≤ (c.toNat : Int)
  · by_cases h2 : (c.toNat : Int) ≤ 57
    · have hd : Hid (Num.isD c = true) := by unfold Hid; simp [Num.isD]; omega
      go_enter Try.func28, Try.ntmps28
      go_wp2
      go_ret
      exact ⟨by rw [hd.out]; rfl, rfl⟩
    · have hd : Num.isD c = false := by simp [Num.isD]; omega
      go_enter Try.func28, Try.ntmps28
      go_wp2
      go_ret
      exact ⟨rfl, rfl⟩
  · have hd : Num.isD c = false := by simp [Num.isD]; omega
    go_enter Try.func28, Try.ntmps28
    go_wp2
    go_ret
    exact ⟨rfl, rfl⟩

theorem zzIsDigit_any (c : UInt8) (w : World) :
    Calls Try.prog 12 #[.int .u8 c.toNat] w fun e w' => e = .returned (.bool (Num.isD c)) ∧ w' = w := by
  by_cases h1 : (48 : Int) ≤ (c.toNat : Int)
  · by_cases h2 : (c.toNat : Int) ≤ 57
    · have hd : Hid (Num.isD c = true) := by unfold Hid; simp [Num.isD]; omega
      go_enter Try.func12, Try.ntmps12
      go_wp2
      go_ret
      exact ⟨by rw [hd.out]; rfl, rfl⟩
    · have hd : Num.isD c = false := by simp [Num.isD]; omega
      go_enter Try.func12, Try.ntmps12
      go_wp2
      go_ret
      exact ⟨rfl, rfl⟩
  · have hd : Num.isD c = false := by simp [Num.isD]; omega
    go_enter Try.func12, Try.ntmps12
    go_wp2
    go_ret
    exact ⟨rfl, rfl⟩

theorem drop_cons (s : ByteArray) (k : Nat) (h : k < s.size) : s.data.toList.drop k = s[k] :: s.data.toList.drop (k + 1) := by
  rw [List.drop_eq_getElem_cons (by simpa using h)]; rfl
theorem drop_none (s : ByteArray) (k : Nat) (h : s.size ≤ k) : s.data.toList.drop k = [] := by
  rw [List.drop_eq_nil_iff]; simpa using h
theorem nd_yes (s : ByteArray) (k : Nat) (h : k < s.size) (hd : Num.isD s[k] = true) : Num.nd (s.data.toList.drop k) = Num.nd (s.data.toList.drop (k + 1)) + 1 := by
  rw [drop_cons s k h]; simp [Num.nd, hd]
theorem nd_no (s : ByteArray) (k : Nat) (h : k < s.size) (hd : Num.isD s[k] = false) : Num.nd (s.data.toList.drop k) = 0 := by
  rw [drop_cons s k h]; simp [Num.nd, hd]
theorem nd_end (s : ByteArray) (k : Nat) (h : s.size ≤ k) : Num.nd (s.data.toList.drop k) = 0 := by
  rw [drop_none s k h]; rfl
theorem nd_le (l : List UInt8) : Num.nd l ≤ l.length := by
  induction l with
  | nil => simp [Num.nd]
  | cons c r ih => simp only [Num.nd]; split <;> simp <;> omega
theorem ret2 {k : IntKind} {a b c d : Int} (h : a = b) (h' : c = d) : Ending.returned (.tuple #[.int k a, .int k c]) = .returned (.tuple #[.int k b, .int k d]) := by rw [h, h']

theorem ip_sign (s : ByteArray) (h : 0 < s.size) (hs : Num.isSg s[0] = true) : Num.ipEnd s.data.toList = 1 + Num.nd (s.data.toList.drop 1) ∧ Num.ipDig s.data.toList = Num.nd (s.data.toList.drop 1) := by
  have e := drop_cons s 0 h
  rw [List.drop_zero] at e
  have e1 : Num.sg s.data.toList = 1 := by rw [e]; simp [Num.sg, hs]
  unfold Num.ipEnd Num.ipDig
  rw [e1]
  exact ⟨rfl, rfl⟩
theorem ip_plain (s : ByteArray) (h : 0 < s.size) (hs : Num.isSg s[0] = false) : Num.ipEnd s.data.toList = Num.nd (s.data.toList.drop 0) ∧ Num.ipDig s.data.toList = Num.nd (s.data.toList.drop 0) := by
  have e := drop_cons s 0 h
  rw [List.drop_zero] at e
  have e1 : Num.sg s.data.toList = 0 := by rw [e]; simp [Num.sg, hs]
  unfold Num.ipEnd Num.ipDig
  rw [e1]
  exact ⟨by omega, rfl⟩
theorem ip_none (s : ByteArray) (h : s.size = 0) : Num.ipEnd s.data.toList = 0 ∧ Num.ipDig s.data.toList = 0 := by
  have e := drop_none s 0 (by omega)
  rw [List.drop_zero] at e
  rw [e]
  exact ⟨rfl, rfl⟩
theorem toList_empty (s : ByteArray) (h : s.size = 0) : s.toList.isEmpty = true := by
  rw [ByteArray.toList_eq]
  have := drop_none s 0 (by omega)
  rw [List.drop_zero] at this
  rw [this]; rfl
theorem toList_full (s : ByteArray) (h : 0 < s.size) : s.toList.isEmpty = false := by
  rw [ByteArray.toList_eq]
  have := drop_cons s 0 h
  rw [List.drop_zero] at this
  rw [this]; rfl

/-- the four ways into the loop of integerPrefix -/
theorem ways (s : ByteArray) : ∃ st : Nat, st ≤ s.size ∧ Num.ipEnd s.data.toList = st + Num.nd (s.data.toList.drop st) ∧ Num.ipDig s.data.toList = Num.nd (s.data.toList.drop st) ∧
      (st = 0 ∧ s.size = 0 ∨ (∃ h : 0 < s.size, st = 0 ∧ ((s[0].toNat : Int) == 43) = false ∧ ((s[0].toNat : Int) == 45) = false) ∨ (∃ h : 0 < s.size, st = 1 ∧ ((s[0].toNat : Int) == 43) = true) ∨ (∃ h : 0 < s.size, st = 1 ∧ ((s[0].toNat : Int) == 43) = false ∧ ((s[0].toNat : Int) == 45) = true)) := by
  by_cases h0 : s.size = 0
  · have := ip_none s h0
    refine ⟨0, by omega, ?_, ?_, .inl ⟨rfl, h0⟩⟩
    · rw [nd_end s 0 (by omega)]; omega
    · rw [nd_end s 0 (by omega)]; omega
  · have hp : 0 < s.size := by omega
    by_cases h1 : s[0].toNat = 43
    · have hi := ip_sign s hp (by simp [Num.isSg, h1])
      exact ⟨1, hp, hi.1, hi.2, .inr (.inr (.inl ⟨hp, rfl, by simp; omega⟩))⟩
    · by_cases h2 : s[0].toNat = 45
      · have hi := ip_sign s hp (by simp [Num.isSg, h2])
        exact ⟨1, hp, hi.1, hi.2, .inr (.inr (.inr ⟨hp, rfl, by simp; omega, by simp; omega⟩))⟩
      · have hi := ip_plain s hp (by simp [Num.isSg, h1, h2])
        exact ⟨0, by omega, by rw [hi.1]; omega, hi.2, .inr (.inl ⟨hp, rfl, by simp; omega, by simp; omega⟩)⟩

set_option maxHeartbeats 1000000 in
theorem intPre_any (s : ByteArray) (w : World) (hs : s.size ≤ maxLen) :
    Calls Try.prog 27 #[.string s] w fun e w' => e = .returned (.tuple #[.int .i64 (Num.ipEnd s.data.toList), .int .i64 (Num.ipDig s.data.toList)]) ∧ w' = w := by
  unfold maxLen at hs
  obtain ⟨st, hst, HE1, HE2, hw⟩ := ways s
  replace HE1 := hide HE1
  replace HE2 := hide HE2
  rcases hw with ⟨rfl, h0⟩ | ⟨h0, rfl, h1, h2⟩ | ⟨h0, rfl, h1⟩ | ⟨h0, rfl, h1, h2⟩
  case' inl => have he := toList_empty s h0; clear h0
  case' inr.inl => have he := toList_full s h0
  case' inr.inr.inl => have he := toList_full s h0
  case' inr.inr.inr => have he := toList_full s h0
  all_goals
    go_enter Try.func27, Try.ntmps27
    go_wp2
    go_loop [2, 3] (fun v2 v3 => ∃ e d : Nat, e ≤ s.size ∧ d ≤ e ∧ Num.ipEnd s.data.toList = e + Num.nd (s.data.toList.drop e) ∧ Num.ipDig s.data.toList = d + Num.nd (s.data.toList.drop e) ∧ v2 = .int .i64 e ∧ v3 = .int .i64 d) (fun v2 _ => s.size - (intOf v2).toNat)
    case atStart => first | exact ⟨0, 0, by omega, by omega, HE1.out, by rw [HE2.out]; omega, rfl, rfl⟩ | exact ⟨1, 0, by omega, by omega, HE1.out, by rw [HE2.out]; omega, rfl, rfl⟩
    case round =>
      obtain ⟨e, d, hes, hde, H1, H2, rfl, rfl⟩ := hrel
      clear HE1 HE2
      replace H1 := hide H1
      replace H2 := hide H2
      by_cases hlt : e < s.size
      · cases hD : Num.isD s[e]
        · have HD := hide hD
          go_wp2_with (go_at_call 28; refine (isDigit_any _ _).mono ?_; rintro e w' ⟨rfl, rfl⟩)
          go_ret2
          exact ⟨ret2 (by rw [H1.out, nd_no s e hlt HD.out]; omega) (by rw [H2.out, nd_no s e hlt HD.out]; omega), rfl⟩
        · have HD := hide hD
          go_wp2_with (go_at_call 28; refine (isDigit_any _ _).mono ?_; rintro e w' ⟨rfl, rfl⟩)
          go_round
          case rel => exact ⟨e + 1, d + 1, by omega, by omega, by rw [H1.out, nd_yes s e hlt HD.out]; omega, by rw [H2.out, nd_yes s e hlt HD.out]; omega, by go_num, by go_num⟩
          case measure => simp [intOf]; omega
      · go_wp2
        go_ret2
        exact ⟨ret2 (by rw [H1.out, nd_end s e (by omega)]; omega) (by rw [H2.out, nd_end s e (by omega)]; omega), rfl⟩
end Go.Proofs.Qxb6601586a
