/-
  WALK: zzDateTimeModel.
-/
import Derived.Test.Qxb6601586aDtU
import Derived.Deep.RegionHeld3
namespace Go.Proofs.Qxb6601586a.Dt
open Go.RowKit
set_option linter.unusedVariables false
set_option linter.unusedSimpArgs false

set_option maxRecDepth 100000 in
set_option maxHeartbeats 4000000 in
theorem dm_short (s : ByteArray) (m : Nat) (w : World) (hs : s.size ≤ 1048576) (HM : Cuts s.data.toList m) (hC : ¬ (m = 1 ∨ (12 ≤ Num.nd s.data.toList ∧ (s.data.toList.drop (Num.nd s.data.toList)).head? = some 46))) (hm : m < 3 ∨ 7 < m) :
    Calls Try.prog 16 #[.string s] w (ModelPost s.data.toList w) := by
  have HQ := hide ((dtf_ask s.data.toList m HM).trans (if_neg hC))
  have H2 : Hid ((dtf s.data.toList).2 = false) := by
    unfold Hid
    rw [HQ.out]
    rcases hm with hm | hm
    · have h1 := HM.pos
      have h2 : m = 2 := by
        have : m ≠ 1 := fun h => hC (.inl h)
        omega
      subst h2
      exact two_false _ HM
    · exact eight_false _ m hm HM
  have hm2 : 2 ≤ m := by
    have h1 := HM.pos
    have : m ≠ 1 := fun h => hC (.inl h)
    omega
  have hnl : Num.nd s.data.toList ≤ s.size := by have := nd_le' s.data.toList; rw [size_toList] at this; exact this
  have z1 := hide (rowOf_one zero7)
  have z7 := hide z7size
  obtain ⟨c, hc, hr⟩ := rest_cons s.data.toList 0 (HM.lt 0 (by omega))
  clear hr
  have hC2 : Hid (c.toNat = 46 → ¬ 12 ≤ Num.nd s.data.toList) := by
    intro hc46 h12
    refine hC (.inr ⟨h12, ?_⟩)
    rw [List.head?_drop]
    have e : c = 46 := UInt8.toNat_inj.1 hc46
    rw [← e]
    exact hc
  clear hC
  go_enter Try.func16, Try.ntmps16
  go_wp2
  go_loopw [8, 9] (fun v8 v9 wr => ∃ (p j : Nat) (gs ge se : List Nat), Inv1 s.data.toList w wr p j gs ge se ∧ v8 = .int .i64 ((p : Int) + 1) ∧ v9 = .int .i64 j) (fun _ v9 _ => s.size - (intOf v9).toNat)
  case atStart => exact ⟨0, 0, z8, z8, z8, Inv1.start _ _, rfl, rfl⟩
  case round =>
    obtain ⟨p, j, gs, ge, se, hI, rfl, rfl⟩ := hrel
    have hjl := hI.jl
    rw [size_toList] at hjl
    have hpj := hI.pj
    by_cases hlt : j < s.size
    · have hc := get_toList s j hlt
      have hlt2 : j < s.data.toList.length := by rw [size_toList]; exact hlt
      have hsz := hI.r3.lt
      cases hD : Num.isD s[j]
      · have HC := hide (hI.cut hlt2 _ hc hD)
        obtain ⟨x1, hx1⟩ : ∃ x1, p < 8 → ge[p]? = some x1 := by
          by_cases h8 : p < 8
          · obtain ⟨x, hx⟩ := some_at ge p (by rw [hI.le]; exact h8)
            exact ⟨x, fun _ => hx⟩
          · exact ⟨0, fun h => absurd h h8⟩
        by_cases h8 : p + 1 < 8
        · have dE := row_cellN hI.r2 (hx1 (by omega))
          obtain ⟨x2, hx2⟩ := some_at gs (p + 1) (by rw [hI.lg]; exact h8)
          obtain ⟨x3, hx3⟩ := some_at se (p + 1) (by rw [hI.ls]; exact h8)
          have dG := row_cellN hI.r1 hx2
          have dS := row_cellB hI.r3 hx3
          have fE := hI.r2.frozen p
          have fG := hI.r1.frozen (p + 1)
          have fS := hI.r3.frozen (p + 1)
          have q0 := hide (((hI.r0.setOther ⟨w.heap.size + 2, p, none⟩ (.int .i64 (j : Nat)) (by simp)).setOther ⟨w.heap.size + 1, p + 1, none⟩ (.int .i64 (j + 1 : Nat)) (by simp)).setOther ⟨w.heap.size + 3, p + 1, none⟩ (.int .u8 s[j].toNat) (by simp))
          have q1 := (((hI.r1.setOther ⟨w.heap.size + 2, p, none⟩ (.int .i64 (j : Nat)) (by simp)).setCell (p + 1) (.int .i64 (j + 1 : Nat))).setOther ⟨w.heap.size + 3, p + 1, none⟩ (.int .u8 s[j].toNat) (by simp))
          have q2 := (((hI.r2.setCell p (.int .i64 (j : Nat))).setOther ⟨w.heap.size + 1, p + 1, none⟩ (.int .i64 (j + 1 : Nat)) (by simp)).setOther ⟨w.heap.size + 3, p + 1, none⟩ (.int .u8 s[j].toNat) (by simp))
          have q3 := (((hI.r3.setOther ⟨w.heap.size + 2, p, none⟩ (.int .i64 (j : Nat)) (by simp)).setOther ⟨w.heap.size + 1, p + 1, none⟩ (.int .i64 (j + 1 : Nat)) (by simp)).setCell (p + 1) (.int .u8 s[j].toNat))
          rw [map_set_iv] at q1 q2
          rw [map_set_bv] at q3
          have hb := hide (((hI.b.setCell (p := ⟨w.heap.size + 2, p, none⟩) (by simp) (.int .i64 (j : Nat))).setCell (p := ⟨w.heap.size + 1, p + 1, none⟩) (by simp) (.int .i64 (j + 1 : Nat))).setCell (p := ⟨w.heap.size + 3, p + 1, none⟩) (by simp) (.int .u8 s[j].toNat))
          replace q1 := hide q1
          replace q2 := hide q2
          replace q3 := hide q3
          have hI' := hide hI
          clear hI
          replace hD := hide hD
          replace hc := hide hc
          clear hx1 hx2 hx3
          go_wp2_with (go_at_call 12; refine (zzIsDigit_any _ _).mono ?_; rintro e w' ⟨rfl, rfl⟩; rw [hD.out])
          go_roundw
          case rel =>
            go_light
            exact ⟨p + 1, j + 1, gs.set (p + 1) (j + 1), ge.set p j, se.set (p + 1) s[j].toNat, HC.out _ _ _ _ (by rw [if_pos h8]) (by rw [if_pos (by omega)]) (by rw [if_pos h8]) q0.out q1.out q2.out q3.out hb.out, by go_num, by go_num⟩
          case measure => simp [intOf]; omega
        · by_cases h7 : p = 7
          · have dE := row_cellN hI.r2 (hx1 (by omega))
            have fE := hI.r2.frozen p
            have q0 := hide (hI.r0.setOther ⟨w.heap.size + 2, p, none⟩ (.int .i64 (j : Nat)) (by simp))
            have q1 := hide (hI.r1.setOther ⟨w.heap.size + 2, p, none⟩ (.int .i64 (j : Nat)) (by simp))
            have q2 := hI.r2.setCell p (.int .i64 (j : Nat))
            have q3 := hide (hI.r3.setOther ⟨w.heap.size + 2, p, none⟩ (.int .i64 (j : Nat)) (by simp))
            rw [map_set_iv] at q2
            have hb := hide (hI.b.setCell (p := ⟨w.heap.size + 2, p, none⟩) (by simp) (.int .i64 (j : Nat)))
            replace q2 := hide q2
            clear hI hx1
            replace hD := hide hD
            replace hc := hide hc
            have h7a : ((p : Int) + 1 ≤ 8) := by omega
            have h7b : ¬ ((p : Int) + 1 < 8) := by omega
            have h7c : p < 8 := by omega
            clear h7
            go_wp2_with (go_at_call 12; refine (zzIsDigit_any _ _).mono ?_; rintro e w' ⟨rfl, rfl⟩; rw [hD.out])
            go_roundw
            case rel =>
              go_light
              exact ⟨p + 1, j + 1, gs, ge.set p j, se, HC.out _ _ _ _ (by rw [if_neg h8]) (by rw [if_pos h7c]) (by rw [if_neg h8]) q0.out q1.out q2.out q3.out hb.out, by go_num, by go_num⟩
            case measure => simp [intOf]; omega
          · have hI' := hide hI
            clear hI hx1
            replace hD := hide hD
            replace hc := hide hc
            have h7a : ¬ ((p : Int) + 1 ≤ 8) := by omega
            have h7b : ¬ ((p : Int) + 1 < 8) := by omega
            have h7c : ¬ p < 8 := by omega
            go_wp2_with (go_at_call 12; refine (zzIsDigit_any _ _).mono ?_; rintro e w' ⟨rfl, rfl⟩; rw [hD.out])
            go_roundw
            case rel =>
              go_light
              exact ⟨p + 1, j + 1, gs, ge, se, HC.out _ _ _ _ (by rw [if_neg h8]) (by rw [if_neg h7c]) (by rw [if_neg h8]) hI'.out.r0 hI'.out.r1 hI'.out.r2 hI'.out.r3 hI'.out.b, by go_num, by go_num⟩
            case measure => simp [intOf]; omega
      · have HC := hide (hI.digit hlt2 _ hc hD)
        clear hI
        replace hD := hide hD
        replace hc := hide hc
        go_wp2_with (go_at_call 12; refine (zzIsDigit_any _ _).mono ?_; rintro e w' ⟨rfl, rfl⟩; rw [hD.out])
        go_roundw
        case rel =>
          go_light
          exact ⟨p, j + 1, gs, ge, se, HC.out, rfl, by go_num⟩
        case measure => simp [intOf]; omega
    · have hje : j = s.size := by omega
      subst hje
      rw [← size_toList] at hI
      have hpm := cuts_unique hI.cuts HM
      subst hpm
      have hsz := hI.r3.lt
      by_cases hc46 : c.toNat = 46
      · rcases (show p = 1 ∨ p = 7 ∨ 8 ≤ p by omega) with hpp | hpp | hpp
        · have hp8 : p < 8 := by omega

          obtain ⟨x1, hx1⟩ := some_at ge p (by rw [hI.le]; exact hp8)
          have hE := row_cellN hI.r2 hx1
          clear hx1
          have fE := hI.r2.frozen p
          have I2 := hI.done_lo hp8
          rw [size_toList] at I2
          have c0 := row_cellN I2.r2 (I2.he 0 (by omega) (by omega))
          rw [show endOf s.data.toList 0 = Num.nd s.data.toList from rfl] at c0

          have cS := row_cellB I2.r3 (I2.hs 0 c (by omega) (by omega) hc)
          have t1 : ((p : Int) + 1 == 1) = false := beq_eq_false_iff_ne.2 (by omega)

          have t3 : decide ((p : Int) + 1 < 3) = true := decide_eq_true (by omega)
          have tp : (p : Int) + 1 ≤ 8 := by omega

          have tS : ((c.toNat : Int) == 46) = true := beq_iff_eq.2 (by omega)
          have t12 : decide (12 ≤ (Num.nd s.data.toList : Int)) = false := decide_eq_false (by have := hC2.out hc46; omega)

          replace hc46 := hide hc46
          have r0 := hide I2.r0
          have hB := hide I2.b
          have hsz2 : w.heap.size + 3 < wr.heap.size := hsz
          clear I2 hI
          generalize Num.nd s.data.toList = n at *
          clear hpp hm
          go_wp2_with (first | (refine wpList_load_row rfl 33 (.tmp 13) rfl wr.heap.size rfl 33 (rowOf zero7).toArray (0, 0) _ ?_ Try.underlying33 rfl ?_ ?_) | (refine wpList_store_row rfl 33 (.tmp 2) _ rfl w.heap.size (rowOf zero7).toArray rfl rfl 33 (rowOf zero7).toArray ?_ ?_ ?_ z1.out ?_))
          · exact Row.new _ (rowOf zero7) 33 _ (by simp)
          · rw [z7.out]; kernel_rfl
          · exact r0.out.alloc _ (by first | omega | (simp <;> omega))
          · rw [z7.out]; kernel_rfl
          · rfl
          refine ret_row3 rfl w.heap.size 33 (rowOf zero7) _ rfl ((r0.out.alloc _ (by first | omega | (simp <;> omega))).setRow _) Try.underlying33 rfl (by rw [z7.out]; kernel_rfl) rfl ⟨zero7, false, false, rfl, rfl, H2.out.symm, (fun h => by cases h), ?_⟩
          exact below_setRow (hB.out.alloc (by first | omega | (simp <;> omega)) _) w.heap.size (by omega) _
        · have hp8 : p < 8 := by omega

          obtain ⟨x1, hx1⟩ := some_at ge p (by rw [hI.le]; exact hp8)
          have hE := row_cellN hI.r2 hx1
          clear hx1
          have fE := hI.r2.frozen p
          have I2 := hI.done_lo hp8
          rw [size_toList] at I2
          have c0 := row_cellN I2.r2 (I2.he 0 (by omega) (by omega))
          rw [show endOf s.data.toList 0 = Num.nd s.data.toList from rfl] at c0

          have cS := row_cellB I2.r3 (I2.hs 0 c (by omega) (by omega) hc)
          have t1 : ((p : Int) + 1 == 1) = false := beq_eq_false_iff_ne.2 (by omega)

          have t3 : decide ((p : Int) + 1 < 3) = false := decide_eq_false (by omega)
          have t7 : decide (7 < (p : Int) + 1) = true := decide_eq_true (by omega)
          have tp : (p : Int) + 1 ≤ 8 := by omega

          have tS : ((c.toNat : Int) == 46) = true := beq_iff_eq.2 (by omega)
          have t12 : decide (12 ≤ (Num.nd s.data.toList : Int)) = false := decide_eq_false (by have := hC2.out hc46; omega)

          replace hc46 := hide hc46
          have r0 := hide I2.r0
          have hB := hide I2.b
          have hsz2 : w.heap.size + 3 < wr.heap.size := hsz
          clear I2 hI
          generalize Num.nd s.data.toList = n at *
          clear hpp hm
          go_wp2_with (first | (refine wpList_load_row rfl 33 (.tmp 13) rfl wr.heap.size rfl 33 (rowOf zero7).toArray (0, 0) _ ?_ Try.underlying33 rfl ?_ ?_) | (refine wpList_store_row rfl 33 (.tmp 2) _ rfl w.heap.size (rowOf zero7).toArray rfl rfl 33 (rowOf zero7).toArray ?_ ?_ ?_ z1.out ?_))
          · exact Row.new _ (rowOf zero7) 33 _ (by simp)
          · rw [z7.out]; kernel_rfl
          · exact r0.out.alloc _ (by first | omega | (simp <;> omega))
          · rw [z7.out]; kernel_rfl
          · rfl
          refine ret_row3 rfl w.heap.size 33 (rowOf zero7) _ rfl ((r0.out.alloc _ (by first | omega | (simp <;> omega))).setRow _) Try.underlying33 rfl (by rw [z7.out]; kernel_rfl) rfl ⟨zero7, false, false, rfl, rfl, H2.out.symm, (fun h => by cases h), ?_⟩
          exact below_setRow (hB.out.alloc (by first | omega | (simp <;> omega)) _) w.heap.size (by omega) _
        · have I2 := hI.done_hi (by omega)
          have c0 := row_cellN I2.r2 (I2.he 0 (by omega) (by omega))
          rw [show endOf s.data.toList 0 = Num.nd s.data.toList from rfl] at c0

          have cS := row_cellB I2.r3 (I2.hs 0 c (by omega) (by omega) hc)
          have t1 : ((p : Int) + 1 == 1) = false := beq_eq_false_iff_ne.2 (by omega)

          have t3 : decide ((p : Int) + 1 < 3) = false := decide_eq_false (by omega)
          have t7 : decide (7 < (p : Int) + 1) = true := decide_eq_true (by omega)
          have tp : decide ((p : Int) + 1 ≤ 8) = false := decide_eq_false (by omega)

          have tS : ((c.toNat : Int) == 46) = true := beq_iff_eq.2 (by omega)
          have t12 : decide (12 ≤ (Num.nd s.data.toList : Int)) = false := decide_eq_false (by have := hC2.out hc46; omega)

          replace hc46 := hide hc46
          have r0 := hide I2.r0
          have hB := hide I2.b
          have hsz2 : w.heap.size + 3 < wr.heap.size := hsz
          clear I2 hI
          generalize Num.nd s.data.toList = n at *
          clear hpp hm
          go_wp2_with (first | (refine wpList_load_row rfl 33 (.tmp 13) rfl wr.heap.size rfl 33 (rowOf zero7).toArray (0, 0) _ ?_ Try.underlying33 rfl ?_ ?_) | (refine wpList_store_row rfl 33 (.tmp 2) _ rfl w.heap.size (rowOf zero7).toArray rfl rfl 33 (rowOf zero7).toArray ?_ ?_ ?_ z1.out ?_))
          · exact Row.new _ (rowOf zero7) 33 _ (by simp)
          · rw [z7.out]; kernel_rfl
          · exact r0.out.alloc _ (by first | omega | (simp <;> omega))
          · rw [z7.out]; kernel_rfl
          · rfl
          refine ret_row3 rfl w.heap.size 33 (rowOf zero7) _ rfl ((r0.out.alloc _ (by first | omega | (simp <;> omega))).setRow _) Try.underlying33 rfl (by rw [z7.out]; kernel_rfl) rfl ⟨zero7, false, false, rfl, rfl, H2.out.symm, (fun h => by cases h), ?_⟩
          exact below_setRow (hB.out.alloc (by first | omega | (simp <;> omega)) _) w.heap.size (by omega) _
      · rcases (show p = 1 ∨ p = 7 ∨ 8 ≤ p by omega) with hpp | hpp | hpp
        · have hp8 : p < 8 := by omega

          obtain ⟨x1, hx1⟩ := some_at ge p (by rw [hI.le]; exact hp8)
          have hE := row_cellN hI.r2 hx1
          clear hx1
          have fE := hI.r2.frozen p
          have I2 := hI.done_lo hp8
          rw [size_toList] at I2
          have c0 := row_cellN I2.r2 (I2.he 0 (by omega) (by omega))
          rw [show endOf s.data.toList 0 = Num.nd s.data.toList from rfl] at c0

          have cS := row_cellB I2.r3 (I2.hs 0 c (by omega) (by omega) hc)
          have t1 : ((p : Int) + 1 == 1) = false := beq_eq_false_iff_ne.2 (by omega)

          have t3 : decide ((p : Int) + 1 < 3) = true := decide_eq_true (by omega)
          have tp : (p : Int) + 1 ≤ 8 := by omega

          have tS : ((c.toNat : Int) == 46) = false := beq_eq_false_iff_ne.2 (by omega)

          replace hc46 := hide hc46
          have r0 := hide I2.r0
          have hB := hide I2.b
          have hsz2 : w.heap.size + 3 < wr.heap.size := hsz
          clear I2 hI
          generalize Num.nd s.data.toList = n at *
          clear hpp hm
          go_wp2_with (first | (refine wpList_load_row rfl 33 (.tmp 13) rfl wr.heap.size rfl 33 (rowOf zero7).toArray (0, 0) _ ?_ Try.underlying33 rfl ?_ ?_) | (refine wpList_store_row rfl 33 (.tmp 2) _ rfl w.heap.size (rowOf zero7).toArray rfl rfl 33 (rowOf zero7).toArray ?_ ?_ ?_ z1.out ?_))
          · exact Row.new _ (rowOf zero7) 33 _ (by simp)
          · rw [z7.out]; kernel_rfl
          · exact r0.out.alloc _ (by first | omega | (simp <;> omega))
          · rw [z7.out]; kernel_rfl
          · rfl
          refine ret_row3 rfl w.heap.size 33 (rowOf zero7) _ rfl ((r0.out.alloc _ (by first | omega | (simp <;> omega))).setRow _) Try.underlying33 rfl (by rw [z7.out]; kernel_rfl) rfl ⟨zero7, false, false, rfl, rfl, H2.out.symm, (fun h => by cases h), ?_⟩
          exact below_setRow (hB.out.alloc (by first | omega | (simp <;> omega)) _) w.heap.size (by omega) _
        · have hp8 : p < 8 := by omega

          obtain ⟨x1, hx1⟩ := some_at ge p (by rw [hI.le]; exact hp8)
          have hE := row_cellN hI.r2 hx1
          clear hx1
          have fE := hI.r2.frozen p
          have I2 := hI.done_lo hp8
          rw [size_toList] at I2
          have c0 := row_cellN I2.r2 (I2.he 0 (by omega) (by omega))
          rw [show endOf s.data.toList 0 = Num.nd s.data.toList from rfl] at c0

          have cS := row_cellB I2.r3 (I2.hs 0 c (by omega) (by omega) hc)
          have t1 : ((p : Int) + 1 == 1) = false := beq_eq_false_iff_ne.2 (by omega)

          have t3 : decide ((p : Int) + 1 < 3) = false := decide_eq_false (by omega)
          have t7 : decide (7 < (p : Int) + 1) = true := decide_eq_true (by omega)
          have tp : (p : Int) + 1 ≤ 8 := by omega

          have tS : ((c.toNat : Int) == 46) = false := beq_eq_false_iff_ne.2 (by omega)

          replace hc46 := hide hc46
          have r0 := hide I2.r0
          have hB := hide I2.b
          have hsz2 : w.heap.size + 3 < wr.heap.size := hsz
          clear I2 hI
          generalize Num.nd s.data.toList = n at *
          clear hpp hm
          go_wp2_with (first | (refine wpList_load_row rfl 33 (.tmp 13) rfl wr.heap.size rfl 33 (rowOf zero7).toArray (0, 0) _ ?_ Try.underlying33 rfl ?_ ?_) | (refine wpList_store_row rfl 33 (.tmp 2) _ rfl w.heap.size (rowOf zero7).toArray rfl rfl 33 (rowOf zero7).toArray ?_ ?_ ?_ z1.out ?_))
          · exact Row.new _ (rowOf zero7) 33 _ (by simp)
          · rw [z7.out]; kernel_rfl
          · exact r0.out.alloc _ (by first | omega | (simp <;> omega))
          · rw [z7.out]; kernel_rfl
          · rfl
          refine ret_row3 rfl w.heap.size 33 (rowOf zero7) _ rfl ((r0.out.alloc _ (by first | omega | (simp <;> omega))).setRow _) Try.underlying33 rfl (by rw [z7.out]; kernel_rfl) rfl ⟨zero7, false, false, rfl, rfl, H2.out.symm, (fun h => by cases h), ?_⟩
          exact below_setRow (hB.out.alloc (by first | omega | (simp <;> omega)) _) w.heap.size (by omega) _
        · have I2 := hI.done_hi (by omega)
          have c0 := row_cellN I2.r2 (I2.he 0 (by omega) (by omega))
          rw [show endOf s.data.toList 0 = Num.nd s.data.toList from rfl] at c0

          have cS := row_cellB I2.r3 (I2.hs 0 c (by omega) (by omega) hc)
          have t1 : ((p : Int) + 1 == 1) = false := beq_eq_false_iff_ne.2 (by omega)

          have t3 : decide ((p : Int) + 1 < 3) = false := decide_eq_false (by omega)
          have t7 : decide (7 < (p : Int) + 1) = true := decide_eq_true (by omega)
          have tp : decide ((p : Int) + 1 ≤ 8) = false := decide_eq_false (by omega)

          have tS : ((c.toNat : Int) == 46) = false := beq_eq_false_iff_ne.2 (by omega)

          replace hc46 := hide hc46
          have r0 := hide I2.r0
          have hB := hide I2.b
          have hsz2 : w.heap.size + 3 < wr.heap.size := hsz
          clear I2 hI
          generalize Num.nd s.data.toList = n at *
          clear hpp hm
          go_wp2_with (first | (refine wpList_load_row rfl 33 (.tmp 13) rfl wr.heap.size rfl 33 (rowOf zero7).toArray (0, 0) _ ?_ Try.underlying33 rfl ?_ ?_) | (refine wpList_store_row rfl 33 (.tmp 2) _ rfl w.heap.size (rowOf zero7).toArray rfl rfl 33 (rowOf zero7).toArray ?_ ?_ ?_ z1.out ?_))
          · exact Row.new _ (rowOf zero7) 33 _ (by simp)
          · rw [z7.out]; kernel_rfl
          · exact r0.out.alloc _ (by first | omega | (simp <;> omega))
          · rw [z7.out]; kernel_rfl
          · rfl
          refine ret_row3 rfl w.heap.size 33 (rowOf zero7) _ rfl ((r0.out.alloc _ (by first | omega | (simp <;> omega))).setRow _) Try.underlying33 rfl (by rw [z7.out]; kernel_rfl) rfl ⟨zero7, false, false, rfl, rfl, H2.out.symm, (fun h => by cases h), ?_⟩
          exact below_setRow (hB.out.alloc (by first | omega | (simp <;> omega)) _) w.heap.size (by omega) _

end Go.Proofs.Qxb6601586a.Dt
