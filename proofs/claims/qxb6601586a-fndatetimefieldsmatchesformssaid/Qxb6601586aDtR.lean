/-
  WALKS: zzValue, zzRunField.
-/
import Derived.Test.Qxb6601586aDtI
import Derived.Test.Qxb6601586aDtQ
namespace Go.Proofs.Qxb6601586a.Dt
open Go.RowKit
set_option linter.unusedVariables false

theorem pow_le6 (n : Nat) (h : n ≤ 6) : 10 ^ n ≤ 1000000 := by
  have : (10 : Nat) ^ n ≤ 10 ^ 6 := Nat.pow_le_pow_right (by omega) h
  omega
theorem get_toList (s : ByteArray) (k : Nat) (h : k < s.size) : s.data.toList[k]? = some s[k] := by
  rw [List.getElem?_eq_getElem (by simpa using h)]; rfl
theorem size_toList (s : ByteArray) : s.data.toList.length = s.size := Array.length_toList
theorem value_step (s : ByteArray) (u b : Nat) (h : u < b) (hb : b ≤ s.size) (hd : Num.isD (s[u]'(by omega)) = true) (D P : Nat)
    (hD : D = dec ((s.data.toList.drop (u + 1)).take (b - (u + 1)))) (hP : P = 10 ^ (b - (u + 1))) (h6 : b - u ≤ 6) :
    0 ≤ (((s[u]'(by omega)).toNat : Int) - 48) % 256 * P ∧ (((s[u]'(by omega)).toNat : Int) - 48) % 256 * P ≤ 900000 ∧ (((s[u]'(by omega)).toNat : Int) - 48) % 256 * P ≤ 9 * P ∧
    (D : Int) + (((s[u]'(by omega)).toNat : Int) - 48) % 256 * P = (dec ((s.data.toList.drop u).take (b - u)) : Nat) ∧ ((P : Int) * 10 = (10 ^ (b - u) : Nat)) := by
  have hc := get_toList s u (by omega)
  have e := dec_step s.data.toList u b h _ hc (by rw [size_toList]; exact hb)
  have hdd : 48 ≤ (s[u]'(by omega)).toNat ∧ (s[u]'(by omega)).toNat ≤ 57 := by simpa [Num.isD] using hd
  have hP5 : P ≤ 100000 := by
    have : (10 : Nat) ^ (b - (u + 1)) ≤ 10 ^ 5 := Nat.pow_le_pow_right (by omega) (by omega)
    omega
  have em : (((s[u]'(by omega)).toNat : Int) - 48) % 256 = (((s[u]'(by omega)).toNat - 48 : Nat) : Int) := by omega
  rw [em]
  generalize hx : (s[u]'(by omega)).toNat - 48 = x at *
  have hx9 : x ≤ 9 := by omega
  have hm : x * P ≤ 9 * 100000 := Nat.mul_le_mul hx9 hP5
  have ec : ((x : Nat) : Int) * (P : Int) = ((x * P : Nat) : Int) := by simp
  rw [ec]
  have hm2 : x * P ≤ 9 * P := Nat.mul_le_mul_right _ hx9
  refine ⟨by omega, by omega, by omega, ?_, ?_⟩
  · rw [e, ← hP, ← hD]; omega
  · rw [show b - u = b - (u + 1) + 1 from by omega, Nat.pow_succ, ← hP]; omega

set_option maxRecDepth 100000 in
set_option maxHeartbeats 1000000 in
theorem value_any (s : ByteArray) (a b : Nat) (w : World) (hs : s.size ≤ maxLen) (hab : a ≤ b) (hb : b ≤ s.size) (h6 : b - a ≤ 6) (hd : ∀ j (h : j < s.size), a ≤ j → j < b → Num.isD s[j] = true) :
    Calls Try.prog 25 #[.string s, .int .i64 a, .int .i64 b] w fun e w' => e = .returned (.int .i64 (dec ((s.data.toList.drop a).take (b - a)))) ∧ w' = w := by
  unfold maxLen at hs
  replace hd := hide hd
  go_enter Try.func25, Try.ntmps25
  go_wp2
  go_loop [7, 8, 9] (fun v7 v8 v9 => ∃ (t D P : Nat), a ≤ t ∧ t ≤ b ∧ Hid (D = dec ((s.data.toList.drop t).take (b - t))) ∧ Hid (P = 10 ^ (b - t)) ∧ D < P ∧ P ≤ 1000000 ∧ v7 = .int .i64 D ∧ v8 = .int .i64 P ∧ v9 = .int .i64 ((t : Int) - 1)) (fun v7 v8 v9 => ((intOf v9) + 1).toNat)
  case atStart => exact ⟨b, 0, 1, hab, Nat.le_refl _, by simp [Hid, dec], by simp [Hid], by omega, by omega, rfl, rfl, by go_num⟩
  case round =>
    obtain ⟨t, D, P, h1, h2, HD, HP, h3, h4, rfl, rfl, rfl⟩ := hrel
    by_cases hlt : a < t
    · obtain ⟨u, rfl⟩ : ∃ u, t = u + 1 := ⟨t - 1, by omega⟩
      have e : ((u + 1 : Nat) : Int) - 1 = (u : Int) := by omega
      rw [e]
      clear e
      have hst := value_step s u b (by omega) hb (hd.out u (by omega) (by omega) (by omega)) D P HD.out HP.out (by omega)
      obtain ⟨g1, g2, g5, g3, g4⟩ := hst
      replace g3 := hide g3
      replace g4 := hide g4
      go_wp2
      go_round
      case rel =>
        refine ⟨u, dec ((s.data.toList.drop u).take (b - u)), 10 ^ (b - u), by omega, by omega, rfl, rfl, ?_, pow_le6 _ (by omega), ?_, ?_, by go_num⟩
        · have := g3.out; have := g4.out; omega
        · rw [← g3.out]
        · rw [← g4.out]
      case measure => simp [intOf]
    · have e : t = a := by omega
      subst e
      have HD' := HD.out
      subst HD'
      go_wp2
      go_ret
      exact ⟨rfl, rfl⟩

theorem run_le (s : ByteArray) (a : Nat) (ha : a ≤ s.size) : a + Num.nd (s.data.toList.drop a) ≤ s.size := by
  have := nd_le' (s.data.toList.drop a)
  rw [List.length_drop, size_toList] at this
  omega
theorem run_digit (s : ByteArray) (a j : Nat) (h : j < s.size) (h1 : a ≤ j) (h2 : j < a + Num.nd (s.data.toList.drop a)) : Num.isD s[j] = true := by
  obtain ⟨c, hc, hd⟩ := nd_digit (s.data.toList.drop a) (j - a) (by omega)
  rw [List.getElem?_drop, show a + (j - a) = j from by omega, get_toList s j h] at hc
  simp at hc
  rw [hc]; exact hd
theorem run_noD (s : ByteArray) (a n : Nat) (hn : Num.nd (s.data.toList.drop a) = n) (h : a + n < s.size) : Num.isD s[a + n] = false := by
  subst hn
  obtain ⟨c, hc, hd⟩ := Dt.nd_stop (s.data.toList.drop a) (by rw [List.length_drop, size_toList]; omega)
  rw [List.getElem?_drop, get_toList s _ h] at hc
  simp at hc
  rw [hc]; exact hd

set_option maxRecDepth 100000 in
set_option maxHeartbeats 1000000 in
theorem runField_any (s : ByteArray) (a : Nat) (w : World) (hs : s.size ≤ 1048576) (ha : a ≤ s.size) :
    Calls Try.prog 26 #[.string s, .int .i64 a] w fun e w' => e = .returned (.agg (fld (s.data.toList.drop a)).arr) ∧ Below w.heap.size w w' := by
  have hsm : s.size ≤ maxLen := by unfold maxLen; omega
  have hle := run_le s a ha
  have HE := hide (fld_eq (s.data.toList.drop a))
  have HY := hide (run_digit s a)
  obtain ⟨n, hn⟩ : ∃ n, Num.nd (s.data.toList.drop a) = n := ⟨_, rfl⟩
  have HN := hide (run_noD s a n hn)
  rw [hn] at hle
  have HV : Hid (∀ m w, m ≤ n → m ≤ 6 → Calls Try.prog 25 #[.string s, .int .i64 a, .int .i64 ((a : Int) + (m : Nat))] w fun e w' => e = .returned (.int .i64 (dec ((s.data.toList.drop a).take m))) ∧ w' = w) := by
    intro m w hm h6
    have h := value_any s a (a + m) w hsm (by omega) (by omega) (by omega) (fun j hj h1 h2 => HY.out j hj h1 (by rw [hn]; omega))
    rw [show a + m - a = m from by omega, show ((a + m : Nat) : Int) = (a : Int) + (m : Nat) from by omega] at h
    exact h
  rw [hn] at HE
  rw [hn] at HY
  clear hn
  go_enter Try.func26, Try.ntmps26
  go_wp2
  go_loop [5] (fun v5 => ∃ k : Nat, k ≤ n ∧ v5 = .int .i64 ((a : Int) + k)) (fun v5 => s.size - (intOf v5).toNat)
  case atStart => exact ⟨0, by omega, by go_num⟩
  case round =>
    obtain ⟨k, hk, rfl⟩ := hrel
    have ek : (a : Int) + k = ((a + k : Nat) : Int) := by omega
    by_cases hlt : k < n
    · have hd := hide (HY.out (a + k) (by omega) (by omega) (by omega))
      rw [ek]
      clear ek
      go_wp2_with (go_at_call 12; refine (zzIsDigit_any _ _).mono ?_; rintro e w' ⟨rfl, rfl⟩; rw [hd.out])
      go_round
      case rel => exact ⟨k + 1, by omega, by go_num⟩
      case measure => simp [intOf]; omega
    · obtain rfl : k = n := by omega
      clear hlt
      have hkz : (a : Int) + (k : Int) - (a : Int) = (k : Int) := by omega
      by_cases h6 : k ≤ 6
      · have HV6 := hide (fun w => HV.out k w (by omega) h6)
        have HE6 := HE.out
        rw [show min k 6 = k from by omega, if_neg (by omega)] at HE6
        replace HE6 := hide HE6
        rw [ek]
        clear ek
        by_cases hend : a + k < s.size
        · have hd := hide (HN.out hend)
          go_wp2_with (first | (go_at_call 12; refine (zzIsDigit_any _ _).mono ?_; rintro e w' ⟨rfl, rfl⟩; rw [hd.out]) | (go_at_call 25; refine (HV6.out _).mono ?_; rintro e w' ⟨rfl, rfl⟩))
          refine bodyPost_ret (v := .agg #[.int .i64 (dec ((s.data.toList.drop a).take k)), .int .i64 k, .int .u8 0]) (by simp [results, Try.results26, go_sem]) rfl ⟨?_, ?_⟩
          · rw [HE6.out]; rfl
          · exact ((Below.refl _ _).alloc (by simp) _).alloc (by simp) _
        · go_wp2_with (go_at_call 25; refine (HV6.out _).mono ?_; rintro e w' ⟨rfl, rfl⟩)
          refine bodyPost_ret (v := .agg #[.int .i64 (dec ((s.data.toList.drop a).take k)), .int .i64 k, .int .u8 0]) (by simp [results, Try.results26, go_sem]) rfl ⟨?_, ?_⟩
          · rw [HE6.out]; rfl
          · exact ((Below.refl _ _).alloc (by simp) _).alloc (by simp) _
      · have HV6 : Hid (∀ w, Calls Try.prog 25 #[.string s, .int .i64 a, .int .i64 ((a : Int) + 6)] w fun e w' => e = .returned (.int .i64 (dec ((s.data.toList.drop a).take 6))) ∧ w' = w) := fun w => HV.out 6 w (by omega) (by omega)
        have h7 : a + 6 < s.size := by omega
        have HE6 := HE.out
        have eg : (s.data.toList.drop a).getD 6 0 = s[a + 6] := by
          rw [List.getD_eq_getElem?_getD, List.getElem?_drop, get_toList s (a + 6) h7]; rfl
        rw [show min k 6 = 6 from by omega, if_pos (by omega), eg] at HE6
        replace HE6 := hide HE6
        clear eg
        rw [ek]
        clear ek
        by_cases hend : a + k < s.size
        · have hd := hide (HN.out hend)
          go_wp2_with (first | (go_at_call 12; refine (zzIsDigit_any _ _).mono ?_; rintro e w' ⟨rfl, rfl⟩; rw [hd.out]) | (go_at_call 25; refine (HV6.out _).mono ?_; rintro e w' ⟨rfl, rfl⟩))
          refine bodyPost_ret (v := .agg #[.int .i64 (dec ((s.data.toList.drop a).take 6)), .int .i64 k, .int .u8 s[a + 6].toNat]) (by simp [results, Try.results26, go_sem]) rfl ⟨?_, ?_⟩
          · rw [HE6.out]; rfl
          · exact ((Below.refl _ _).alloc (by simp) _).alloc (by simp) _
        · go_wp2_with (go_at_call 25; refine (HV6.out _).mono ?_; rintro e w' ⟨rfl, rfl⟩)
          refine bodyPost_ret (v := .agg #[.int .i64 (dec ((s.data.toList.drop a).take 6)), .int .i64 k, .int .u8 s[a + 6].toNat]) (by simp [results, Try.results26, go_sem]) rfl ⟨?_, ?_⟩
          · rw [HE6.out]; rfl
          · exact ((Below.refl _ _).alloc (by simp) _).alloc (by simp) _
end Go.Proofs.Qxb6601586a.Dt
