/-
  WALKS: numberPrefix, ZZnumberPrefix.
-/
import Derived.Test.Qxb6601586aNumW
namespace Go.Proofs.Qxb6601586a
open Go.RowKit

theorem ret1 {k : IntKind} {a b : Int} (h : a = b) : Ending.returned (.int k a) = .returned (.int k b) := by rw [h]
theorem extract_drop (s : ByteArray) (k : Nat) : (s.extract k s.size).data.toList = s.data.toList.drop k := by
  simp only [ByteArray.data_extract, Array.toList_extract, List.extract_eq_take_drop]
  rw [List.take_of_length_le]
  simp
theorem ip_le (s : ByteArray) : Num.ipEnd s.data.toList ≤ s.size ∧ Num.ipDig s.data.toList ≤ Num.ipEnd s.data.toList := by
  obtain ⟨st, h1, h2, h3, _⟩ := ways s
  have := nd_le (s.data.toList.drop st)
  have e : (s.data.toList.drop st).length = s.size - st := by simp
  omega

/-- the ways of the exponent at place m -/
theorem expo_ways (s : ByteArray) (m : Nat) (hm : m ≤ s.size) :
    (m = s.size ∧ Num.expo m (s.data.toList.drop m) = m) ∨
    (∃ h : m < s.size, ((s[m].toNat : Int) == 101) = false ∧ ((s[m].toNat : Int) == 69) = false ∧ Num.expo m (s.data.toList.drop m) = m) ∨
    (∃ h : m < s.size, ((s[m].toNat : Int) == 101) = true ∧ Num.ipDig (s.extract (m + 1) s.size).data.toList = 0 ∧ Num.expo m (s.data.toList.drop m) = m) ∨
    (∃ h : m < s.size, ((s[m].toNat : Int) == 101) = true ∧ 0 < Num.ipDig (s.extract (m + 1) s.size).data.toList ∧ Num.expo m (s.data.toList.drop m) = m + (1 + Num.ipEnd (s.extract (m + 1) s.size).data.toList)) ∨
    (∃ h : m < s.size, ((s[m].toNat : Int) == 101) = false ∧ ((s[m].toNat : Int) == 69) = true ∧ Num.ipDig (s.extract (m + 1) s.size).data.toList = 0 ∧ Num.expo m (s.data.toList.drop m) = m) ∨
    (∃ h : m < s.size, ((s[m].toNat : Int) == 101) = false ∧ ((s[m].toNat : Int) == 69) = true ∧ 0 < Num.ipDig (s.extract (m + 1) s.size).data.toList ∧ Num.expo m (s.data.toList.drop m) = m + (1 + Num.ipEnd (s.extract (m + 1) s.size).data.toList)) := by
  rw [extract_drop]
  by_cases h : m < s.size
  · rw [drop_cons s m h]
    simp only [Num.expo]
    by_cases h1 : s[m].toNat = 101
    · have hE : Num.isE s[m] = true := by simp [Num.isE, h1]
      by_cases h3 : 0 < Num.ipDig (s.data.toList.drop (m + 1))
      · exact .inr (.inr (.inr (.inl ⟨h, by simp; omega, h3, by simp [hE, h3]⟩)))
      · exact .inr (.inr (.inl ⟨h, by simp; omega, by omega, by simp [hE, h3]⟩))
    · by_cases h2 : s[m].toNat = 69
      · have hE : Num.isE s[m] = true := by simp [Num.isE, h2]
        by_cases h3 : 0 < Num.ipDig (s.data.toList.drop (m + 1))
        · exact .inr (.inr (.inr (.inr (.inr ⟨h, by simp; omega, by simp; omega, h3, by simp [hE, h3]⟩))))
        · exact .inr (.inr (.inr (.inr (.inl ⟨h, by simp; omega, by simp; omega, by omega, by simp [hE, h3]⟩))))
      · have hE : Num.isE s[m] = false := by simp [Num.isE, h1, h2]
        exact .inr (.inl ⟨h, by simp; omega, by simp; omega, by simp [hE]⟩)
  · refine .inl ⟨by omega, ?_⟩
    rw [drop_none s m (by omega)]; rfl

/-- no point at the integer's end -/
theorem numPre_nopoint (s : ByteArray) (hp : ∀ h : Num.ipEnd s.data.toList < s.size, Num.isP (s[Num.ipEnd s.data.toList]) = false) :
    Num.numPre s.data.toList = if Num.ipDig s.data.toList = 0 then 0 else Num.expo (Num.ipEnd s.data.toList) (s.data.toList.drop (Num.ipEnd s.data.toList)) := by
  unfold Num.numPre
  by_cases h : Num.ipEnd s.data.toList < s.size
  · rw [drop_cons s _ h]
    simp only [Num.frac, hp h]
    rfl
  · rw [drop_none s _ (by omega)]
    rfl
/-- a point at the integer's end -/
theorem numPre_point (s : ByteArray) (h : Num.ipEnd s.data.toList < s.size) (hp : Num.isP (s[Num.ipEnd s.data.toList]) = true) :
    Num.numPre s.data.toList = if Num.ipDig s.data.toList + Num.nd (s.data.toList.drop (Num.ipEnd s.data.toList + 1)) = 0 then 0 else
      Num.expo (Num.ipEnd s.data.toList + 1 + Num.nd (s.data.toList.drop (Num.ipEnd s.data.toList + 1))) (s.data.toList.drop (Num.ipEnd s.data.toList + 1 + Num.nd (s.data.toList.drop (Num.ipEnd s.data.toList + 1)))) := by
  unfold Num.numPre
  rw [drop_cons s _ h]
  simp only [Num.frac, hp, if_true, List.drop_drop]

theorem extract_le (s : ByteArray) (a b : Nat) (hs : s.size ≤ maxLen) : (s.extract a b).size ≤ maxLen := by
  rw [ByteArray.size_extract]; omega

set_option maxHeartbeats 1000000 in
theorem numPre_nop (s : ByteArray) (w : World) (hs : s.size ≤ maxLen) (hp : ∀ h : Num.ipEnd s.data.toList < s.size, Num.isP (s[Num.ipEnd s.data.toList]) = false) :
    Calls Try.prog 20 #[.string s] w fun e w' => e = .returned (.int .i64 (Num.numPre s.data.toList)) ∧ w' = w := by
  have hs' := hide hs
  unfold maxLen at hs
  have HN := hide (numPre_nopoint s hp)
  obtain ⟨hl, hd⟩ := ip_le s
  have hw := expo_ways s (Num.ipEnd s.data.toList) hl
  have HC := hide (fun w => intPre_any s w hs'.out)
  have HM := hide (ip_le (s.extract (Num.ipEnd s.data.toList + 1) s.size))
  generalize Num.ipEnd s.data.toList = i at *
  generalize Num.ipDig s.data.toList = d at *
  have hpt : ∀ h : i < s.size, ((s[i].toNat : Int) == 46) = false := fun h => by have := hp h; simp [Num.isP] at this; simp; omega
  clear hp
  by_cases hd0 : d = 0
  · subst hd0
    rw [if_pos rfl] at HN
    clear hw
    by_cases hlt : i < s.size
    · have hp := hpt hlt
      clear hpt
      go_enter Try.func20, Try.ntmps20
      go_wp2_with (go_at_call 27; refine (HC.out _).mono ?_; rintro e w' ⟨rfl, rfl⟩)
      go_ret
      exact ⟨ret1 (by rw [HN.out]; rfl), rfl⟩
    · clear hpt
      go_enter Try.func20, Try.ntmps20
      go_wp2_with (go_at_call 27; refine (HC.out _).mono ?_; rintro e w' ⟨rfl, rfl⟩)
      go_ret
      exact ⟨ret1 (by rw [HN.out]; rfl), rfl⟩
  · rw [if_neg hd0] at HN
    have hdp : 0 < d := by omega
    clear hd0
    have hD := hide hd
    rcases hw with ⟨h0, h1⟩ | ⟨h0, h1, h2, h3⟩ | ⟨h0, h1, h2, h3⟩ | ⟨h0, h1, h2, h3⟩ | ⟨h0, h1, h2, h3, h4⟩ | ⟨h0, h1, h2, h3, h4⟩
    · rw [h1] at HN
      have hlt : ¬ i < s.size := by omega
      clear h1 h0 hpt
      go_enter Try.func20, Try.ntmps20
      go_wp2_with (go_at_call 27; refine (HC.out _).mono ?_; rintro e w' ⟨rfl, rfl⟩)
      go_ret
      exact ⟨ret1 (by rw [HN.out]), rfl⟩
    · rw [h3] at HN
      have hp := hpt h0
      clear h3 hpt
      go_enter Try.func20, Try.ntmps20
      go_wp2_with (go_at_call 27; refine (HC.out _).mono ?_; rintro e w' ⟨rfl, rfl⟩)
      go_ret
      exact ⟨ret1 (by rw [HN.out]), rfl⟩
    · rw [h3] at HN
      have hp := hpt h0
      clear h3 hpt
      have HX := hide (fun w => intPre_any (s.extract (i + 1) s.size) w (extract_le s _ _ hs'.out))
      generalize Num.ipDig (s.extract (i + 1) s.size).data.toList = xd at *
      generalize Num.ipEnd (s.extract (i + 1) s.size).data.toList = xe at *
      have hx : xe + (i + 1) ≤ s.size := by have := HM.out.1; rw [ByteArray.size_extract] at this; omega
      go_enter Try.func20, Try.ntmps20
      go_wp2_with fail
      refine (HC.out _).mono ?_; rintro e w' ⟨rfl, rfl⟩
      go_wp2_with fail
      refine (HX.out _).mono ?_; rintro e w' ⟨rfl, rfl⟩
      go_wp2
      go_ret
      exact ⟨ret1 (by rw [HN.out]; try rfl), rfl⟩
    · rw [h3] at HN
      have hp := hpt h0
      clear h3 hpt
      have HX := hide (fun w => intPre_any (s.extract (i + 1) s.size) w (extract_le s _ _ hs'.out))
      generalize Num.ipDig (s.extract (i + 1) s.size).data.toList = xd at *
      generalize Num.ipEnd (s.extract (i + 1) s.size).data.toList = xe at *
      have hx : xe + (i + 1) ≤ s.size := by have := HM.out.1; rw [ByteArray.size_extract] at this; omega
      go_enter Try.func20, Try.ntmps20
      go_wp2_with fail
      refine (HC.out _).mono ?_; rintro e w' ⟨rfl, rfl⟩
      go_wp2_with fail
      refine (HX.out _).mono ?_; rintro e w' ⟨rfl, rfl⟩
      go_wp2
      go_ret
      exact ⟨ret1 (by rw [HN.out]; try rfl), rfl⟩
    · rw [h4] at HN
      have hp := hpt h0
      clear h4 hpt
      have HX := hide (fun w => intPre_any (s.extract (i + 1) s.size) w (extract_le s _ _ hs'.out))
      generalize Num.ipDig (s.extract (i + 1) s.size).data.toList = xd at *
      generalize Num.ipEnd (s.extract (i + 1) s.size).data.toList = xe at *
      have hx : xe + (i + 1) ≤ s.size := by have := HM.out.1; rw [ByteArray.size_extract] at this; omega
      go_enter Try.func20, Try.ntmps20
      go_wp2_with fail
      refine (HC.out _).mono ?_; rintro e w' ⟨rfl, rfl⟩
      go_wp2_with fail
      refine (HX.out _).mono ?_; rintro e w' ⟨rfl, rfl⟩
      go_wp2
      go_ret
      exact ⟨ret1 (by rw [HN.out]; try rfl), rfl⟩
    · rw [h4] at HN
      have hp := hpt h0
      clear h4 hpt
      have HX := hide (fun w => intPre_any (s.extract (i + 1) s.size) w (extract_le s _ _ hs'.out))
      generalize Num.ipDig (s.extract (i + 1) s.size).data.toList = xd at *
      generalize Num.ipEnd (s.extract (i + 1) s.size).data.toList = xe at *
      have hx : xe + (i + 1) ≤ s.size := by have := HM.out.1; rw [ByteArray.size_extract] at this; omega
      go_enter Try.func20, Try.ntmps20
      go_wp2_with fail
      refine (HC.out _).mono ?_; rintro e w' ⟨rfl, rfl⟩
      go_wp2_with fail
      refine (HX.out _).mono ?_; rintro e w' ⟨rfl, rfl⟩
      go_wp2
      go_ret
      exact ⟨ret1 (by rw [HN.out]; try rfl), rfl⟩

set_option maxHeartbeats 4000000 in
theorem numPre_pt (s : ByteArray) (w : World) (hs : s.size ≤ maxLen) (hi : Num.ipEnd s.data.toList < s.size) (hp0 : Num.isP (s[Num.ipEnd s.data.toList]) = true) :
    Calls Try.prog 20 #[.string s] w fun e w' => e = .returned (.int .i64 (Num.numPre s.data.toList)) ∧ w' = w := by
  have hs' := hide hs
  unfold maxLen at hs
  have HN := hide (numPre_point s hi hp0)
  obtain ⟨hl, hd⟩ := ip_le s
  have HC := hide (fun w => intPre_any s w hs'.out)
  have hp : ((s[Num.ipEnd s.data.toList].toNat : Int) == 46) = true := by simp [Num.isP] at hp0; simp; omega
  clear hp0
  generalize Num.ipEnd s.data.toList = i at *
  generalize Num.ipDig s.data.toList = d at *
  obtain ⟨m, HQ⟩ : ∃ m, Hid (i + 1 + Num.nd (s.data.toList.drop (i + 1)) = m) := ⟨_, hide rfl⟩
  obtain ⟨D, HD0⟩ : ∃ D, Hid (d + Num.nd (s.data.toList.drop (i + 1)) = D) := ⟨_, hide rfl⟩
  rw [HQ.out, HD0.out] at HN
  have hq : m ≤ s.size := by
    have := nd_le (s.data.toList.drop (i + 1))
    have e : (s.data.toList.drop (i + 1)).length = s.size - (i + 1) := by simp
    have := HQ.out
    omega
  have him : i + 1 ≤ m := by have := HQ.out; omega
  have HW := hide (expo_ways s m hq)
  have HM := hide (ip_le (s.extract (m + 1) s.size))
  have HX := hide (fun w => intPre_any (s.extract (m + 1) s.size) w (extract_le s _ _ hs'.out))
  have hDm : D ≤ m := by have := HQ.out; have := HD0.out; omega
  go_enter Try.func20, Try.ntmps20
  go_wp2_with fail
  refine (HC.out _).mono ?_; rintro e w' ⟨rfl, rfl⟩
  go_wp2_with fail
  go_loop [5, 4] (fun v5 v4 => ∃ j dg : Nat, j ≤ m ∧ Num.nd (s.data.toList.drop j) + j = m ∧ dg + (m - j) = D ∧ v5 = .int .i64 j ∧ v4 = .int .i64 dg) (fun v5 _ => s.size - (intOf v5).toNat)
  case atStart => exact ⟨i + 1, d, him, by have := HQ.out; omega, by have := HQ.out; have := HD0.out; omega, by go_num, by go_num⟩
  case round =>
    obtain ⟨j, dg, hj, H1, H2, rfl, rfl⟩ := hrel
    replace H1 := hide H1
    replace H2 := hide H2
    have hdg : dg ≤ j := by have := H2.out; omega
    clear HC HQ HD0
    by_cases hlt : j < s.size
    · cases hD : Num.isD s[j]
      · have hjm : j = m := by have := H1.out; rw [nd_no s _ hlt hD] at this; omega
        have hdD : dg = D := by have := H2.out; omega
        subst hjm
        subst hdD
        clear H1 H2 hdg hj
        by_cases hz : 0 < dg
        · rw [if_neg (by omega)] at HN
          rcases HW.out with ⟨h0, h1⟩ | ⟨h0, h1, h2, h3⟩ | ⟨h0, h1, h2, h3⟩ | ⟨h0, h1, h2, h3⟩ | ⟨h0, h1, h2, h3, h4⟩ | ⟨h0, h1, h2, h3, h4⟩
          · omega
          · rw [h3] at HN
            clear HW h3 HX HM
            go_wp2_with (go_at_call 28; refine (isDigit_any _ _).mono ?_; rintro e w' ⟨rfl, rfl⟩)
            go_ret
            exact ⟨ret1 (by rw [HN.out]), rfl⟩
          · rw [h3] at HN
            clear HW h3
            generalize Num.ipDig (s.extract (j + 1) s.size).data.toList = xd at *
            generalize Num.ipEnd (s.extract (j + 1) s.size).data.toList = xe at *
            have hx : xe + (j + 1) ≤ s.size := by have := HM.out.1; rw [ByteArray.size_extract] at this; omega
            clear HM
            go_wp2_with (go_at_call 28; refine (isDigit_any _ _).mono ?_; rintro e w' ⟨rfl, rfl⟩)
            refine (HX.out _).mono ?_; rintro e w' ⟨rfl, rfl⟩
            go_wp2
            go_ret
            exact ⟨ret1 (by rw [HN.out]; try rfl), rfl⟩
          · rw [h3] at HN
            clear HW h3
            generalize Num.ipDig (s.extract (j + 1) s.size).data.toList = xd at *
            generalize Num.ipEnd (s.extract (j + 1) s.size).data.toList = xe at *
            have hx : xe + (j + 1) ≤ s.size := by have := HM.out.1; rw [ByteArray.size_extract] at this; omega
            clear HM
            go_wp2_with (go_at_call 28; refine (isDigit_any _ _).mono ?_; rintro e w' ⟨rfl, rfl⟩)
            refine (HX.out _).mono ?_; rintro e w' ⟨rfl, rfl⟩
            go_wp2
            go_ret
            exact ⟨ret1 (by rw [HN.out]; try rfl), rfl⟩
          · rw [h4] at HN
            clear HW h4
            generalize Num.ipDig (s.extract (j + 1) s.size).data.toList = xd at *
            generalize Num.ipEnd (s.extract (j + 1) s.size).data.toList = xe at *
            have hx : xe + (j + 1) ≤ s.size := by have := HM.out.1; rw [ByteArray.size_extract] at this; omega
            clear HM
            go_wp2_with (go_at_call 28; refine (isDigit_any _ _).mono ?_; rintro e w' ⟨rfl, rfl⟩)
            refine (HX.out _).mono ?_; rintro e w' ⟨rfl, rfl⟩
            go_wp2
            go_ret
            exact ⟨ret1 (by rw [HN.out]; try rfl), rfl⟩
          · rw [h4] at HN
            clear HW h4
            generalize Num.ipDig (s.extract (j + 1) s.size).data.toList = xd at *
            generalize Num.ipEnd (s.extract (j + 1) s.size).data.toList = xe at *
            have hx : xe + (j + 1) ≤ s.size := by have := HM.out.1; rw [ByteArray.size_extract] at this; omega
            clear HM
            go_wp2_with (go_at_call 28; refine (isDigit_any _ _).mono ?_; rintro e w' ⟨rfl, rfl⟩)
            refine (HX.out _).mono ?_; rintro e w' ⟨rfl, rfl⟩
            go_wp2
            go_ret
            exact ⟨ret1 (by rw [HN.out]; try rfl), rfl⟩
        · have hz' : dg = 0 := by omega
          subst hz'
          rw [if_pos rfl] at HN
          clear HW HX HM hz
          go_wp2_with (go_at_call 28; refine (isDigit_any _ _).mono ?_; rintro e w' ⟨rfl, rfl⟩)
          go_ret
          exact ⟨ret1 (by rw [HN.out]; rfl), rfl⟩
      · have HD := hide hD
        clear HN HW HX HM
        go_wp2_with (go_at_call 28; refine (isDigit_any _ _).mono ?_; rintro e w' ⟨rfl, rfl⟩)
        go_round
        case rel => exact ⟨j + 1, dg + 1, by have := H1.out; rw [nd_yes s _ hlt HD.out] at this; omega, by have := H1.out; rw [nd_yes s _ hlt HD.out] at this; omega, by have := H1.out; rw [nd_yes s _ hlt HD.out] at this; have := H2.out; omega, by go_num, by go_num⟩
        case measure => simp [intOf]; omega
    · have hjm : j = m := by have := H1.out; rw [nd_end s _ (by omega)] at this; omega
      have hdD : dg = D := by have := H2.out; omega
      subst hjm
      subst hdD
      clear H1 H2 hdg hj
      by_cases hz : 0 < dg
      · rw [if_neg (by omega)] at HN
        rcases HW.out with ⟨h0, h1⟩ | ⟨h0, _⟩ | ⟨h0, _⟩ | ⟨h0, _⟩ | ⟨h0, _⟩ | ⟨h0, _⟩
        · rw [h1] at HN
          clear HW h1 h0 HX HM
          go_wp2
          go_ret
          exact ⟨ret1 (by rw [HN.out]), rfl⟩
        all_goals omega
      · have hz' : dg = 0 := by omega
        subst hz'
        rw [if_pos rfl] at HN
        clear HW HX HM hz
        go_wp2
        go_ret
        exact ⟨ret1 (by rw [HN.out]; rfl), rfl⟩

theorem numPre_any (s : ByteArray) (w : World) (hs : s.size ≤ maxLen) :
    Calls Try.prog 20 #[.string s] w fun e w' => e = .returned (.int .i64 (Num.numPre s.data.toList)) ∧ w' = w := by
  by_cases h : Num.ipEnd s.data.toList < s.size
  · by_cases hp : Num.isP (s[Num.ipEnd s.data.toList]) = true
    · exact numPre_pt s w hs h hp
    · exact numPre_nop s w hs fun _ => by simpa using hp
  · exact numPre_nop s w hs fun h' => absurd h' h

theorem zzNumberPrefix_any (s : ByteArray) (w : World) (hs : s.size ≤ maxLen) :
    Calls Try.prog 9 #[.string s] w fun e w' => e = .returned (.int .i64 (Num.numPre s.data.toList)) ∧ w' = w := by
  go_enter Try.func9, Try.ntmps9
  go_wp2_with fail
  refine (numPre_any s _ hs).mono ?_; rintro e w' ⟨rfl, rfl⟩
  go_wp2
  go_ret
  exact ⟨rfl, rfl⟩
end Go.Proofs.Qxb6601586a
