/-
  WALK: zzDateTimeModel.
-/
import Derived.Test.Qxb6601586aDtX
import Derived.Deep.RegionHeld3
namespace Go.Proofs.Qxb6601586a.Dt
open Go.RowKit
set_option linter.unusedVariables false
set_option linter.unusedSimpArgs false

set_option maxRecDepth 100000 in
set_option maxHeartbeats 4000000 in
theorem dm_go_dot (s : ByteArray) (m : Nat) (w : World) (hs : s.size ≤ 1048576) (HM : Cuts s.data.toList m) (hC : ¬ (m = 1 ∨ (12 ≤ Num.nd s.data.toList ∧ (s.data.toList.drop (Num.nd s.data.toList)).head? = some 46))) (hm3 : 3 ≤ m) (hm7 : m ≤ 7) (hH : ∀ c, s.data.toList[endOf s.data.toList 0]? = some c → c.toNat = 46) :
    Calls Try.prog 16 #[.string s] w (ModelPost s.data.toList w) := by
  have HQ := hide ((dtf_ask s.data.toList m HM).trans (if_neg hC))
  have hnl : Num.nd s.data.toList ≤ s.size := by have := nd_le' s.data.toList; rw [size_toList] at this; exact this
  have hs' : Hid (s.size ≤ maxLen) := by unfold Hid maxLen; omega
  have z1 := hide (rowOf_one zero7)
  have z7 := hide z7size
  obtain ⟨c, hc, hr⟩ := rest_cons s.data.toList 0 (HM.lt 0 (by omega))
  clear hr
  have hC2 : Hid (c.toNat = 46 → ¬ 12 ≤ Num.nd s.data.toList) := by
    intro hc46 h12
    refine hC (.inr ⟨h12, ?_⟩)
    rw [List.head?_drop]
    have e : c = 46 := UInt8.toNat_inj.1 hc46
    rw [← e]
    exact hc
  clear hC
  replace hH := hide (hH c hc)
  go_enter Try.func16, Try.ntmps16
  go_wp2
  go_loopw [8, 9] (fun v8 v9 wr => ∃ (p j : Nat) (gs ge se : List Nat), Inv1 s.data.toList w wr p j gs ge se ∧ v8 = .int .i64 ((p : Int) + 1) ∧ v9 = .int .i64 j) (fun _ v9 _ => s.size - (intOf v9).toNat)
  case atStart => exact ⟨0, 0, z8, z8, z8, Inv1.start _ _, rfl, rfl⟩
  case round =>
    obtain ⟨p, j, gs, ge, se, hI, rfl, rfl⟩ := hrel
    have hjl := hI.jl
    rw [size_toList] at hjl
    have hpj := hI.pj
    by_cases hlt : j < s.size
    · have hc := get_toList s j hlt
      have hlt2 : j < s.data.toList.length := by rw [size_toList]; exact hlt
      have hsz := hI.r3.lt
      cases hD : Num.isD s[j]
      · have HC := hide (hI.cut hlt2 _ hc hD)
        obtain ⟨x1, hx1⟩ : ∃ x1, p < 8 → ge[p]? = some x1 := by
          by_cases h8 : p < 8
          · obtain ⟨x, hx⟩ := some_at ge p (by rw [hI.le]; exact h8)
            exact ⟨x, fun _ => hx⟩
          · exact ⟨0, fun h => absurd h h8⟩
        by_cases h8 : p + 1 < 8
        · have dE := row_cellN hI.r2 (hx1 (by omega))
          obtain ⟨x2, hx2⟩ := some_at gs (p + 1) (by rw [hI.lg]; exact h8)
          obtain ⟨x3, hx3⟩ := some_at se (p + 1) (by rw [hI.ls]; exact h8)
          have dG := row_cellN hI.r1 hx2
          have dS := row_cellB hI.r3 hx3
          have fE := hI.r2.frozen p
          have fG := hI.r1.frozen (p + 1)
          have fS := hI.r3.frozen (p + 1)
          have q0 := hide (((hI.r0.setOther ⟨w.heap.size + 2, p, none⟩ (.int .i64 (j : Nat)) (by simp)).setOther ⟨w.heap.size + 1, p + 1, none⟩ (.int .i64 (j + 1 : Nat)) (by simp)).setOther ⟨w.heap.size + 3, p + 1, none⟩ (.int .u8 s[j].toNat) (by simp))
          have q1 := (((hI.r1.setOther ⟨w.heap.size + 2, p, none⟩ (.int .i64 (j : Nat)) (by simp)).setCell (p + 1) (.int .i64 (j + 1 : Nat))).setOther ⟨w.heap.size + 3, p + 1, none⟩ (.int .u8 s[j].toNat) (by simp))
          have q2 := (((hI.r2.setCell p (.int .i64 (j : Nat))).setOther ⟨w.heap.size + 1, p + 1, none⟩ (.int .i64 (j + 1 : Nat)) (by simp)).setOther ⟨w.heap.size + 3, p + 1, none⟩ (.int .u8 s[j].toNat) (by simp))
          have q3 := (((hI.r3.setOther ⟨w.heap.size + 2, p, none⟩ (.int .i64 (j : Nat)) (by simp)).setOther ⟨w.heap.size + 1, p + 1, none⟩ (.int .i64 (j + 1 : Nat)) (by simp)).setCell (p + 1) (.int .u8 s[j].toNat))
          rw [map_set_iv] at q1 q2
          rw [map_set_bv] at q3
          have hb := hide (((hI.b.setCell (p := ⟨w.heap.size + 2, p, none⟩) (by simp) (.int .i64 (j : Nat))).setCell (p := ⟨w.heap.size + 1, p + 1, none⟩) (by simp) (.int .i64 (j + 1 : Nat))).setCell (p := ⟨w.heap.size + 3, p + 1, none⟩) (by simp) (.int .u8 s[j].toNat))
          replace q1 := hide q1
          replace q2 := hide q2
          replace q3 := hide q3
          have hI' := hide hI
          clear hI
          replace hD := hide hD
          replace hc := hide hc
          clear hx1 hx2 hx3
          go_wp2_with (go_at_call 12; refine (zzIsDigit_any _ _).mono ?_; rintro e w' ⟨rfl, rfl⟩; rw [hD.out])
          go_roundw
          case rel =>
            go_light
            exact ⟨p + 1, j + 1, gs.set (p + 1) (j + 1), ge.set p j, se.set (p + 1) s[j].toNat, HC.out _ _ _ _ (by rw [if_pos h8]) (by rw [if_pos (by omega)]) (by rw [if_pos h8]) q0.out q1.out q2.out q3.out hb.out, by go_num, by go_num⟩
          case measure => simp [intOf]; omega
        · by_cases h7 : p = 7
          · have dE := row_cellN hI.r2 (hx1 (by omega))
            have fE := hI.r2.frozen p
            have q0 := hide (hI.r0.setOther ⟨w.heap.size + 2, p, none⟩ (.int .i64 (j : Nat)) (by simp))
            have q1 := hide (hI.r1.setOther ⟨w.heap.size + 2, p, none⟩ (.int .i64 (j : Nat)) (by simp))
            have q2 := hI.r2.setCell p (.int .i64 (j : Nat))
            have q3 := hide (hI.r3.setOther ⟨w.heap.size + 2, p, none⟩ (.int .i64 (j : Nat)) (by simp))
            rw [map_set_iv] at q2
            have hb := hide (hI.b.setCell (p := ⟨w.heap.size + 2, p, none⟩) (by simp) (.int .i64 (j : Nat)))
            replace q2 := hide q2
            clear hI hx1
            replace hD := hide hD
            replace hc := hide hc
            have h7a : ((p : Int) + 1 ≤ 8) := by omega
            have h7b : ¬ ((p : Int) + 1 < 8) := by omega
            have h7c : p < 8 := by omega
            clear h7
            go_wp2_with (go_at_call 12; refine (zzIsDigit_any _ _).mono ?_; rintro e w' ⟨rfl, rfl⟩; rw [hD.out])
            go_roundw
            case rel =>
              go_light
              exact ⟨p + 1, j + 1, gs, ge.set p j, se, HC.out _ _ _ _ (by rw [if_neg h8]) (by rw [if_pos h7c]) (by rw [if_neg h8]) q0.out q1.out q2.out q3.out hb.out, by go_num, by go_num⟩
            case measure => simp [intOf]; omega
          · have hI' := hide hI
            clear hI hx1
            replace hD := hide hD
            replace hc := hide hc
            have h7a : ¬ ((p : Int) + 1 ≤ 8) := by omega
            have h7b : ¬ ((p : Int) + 1 < 8) := by omega
            have h7c : ¬ p < 8 := by omega
            go_wp2_with (go_at_call 12; refine (zzIsDigit_any _ _).mono ?_; rintro e w' ⟨rfl, rfl⟩; rw [hD.out])
            go_roundw
            case rel =>
              go_light
              exact ⟨p + 1, j + 1, gs, ge, se, HC.out _ _ _ _ (by rw [if_neg h8]) (by rw [if_neg h7c]) (by rw [if_neg h8]) hI'.out.r0 hI'.out.r1 hI'.out.r2 hI'.out.r3 hI'.out.b, by go_num, by go_num⟩
            case measure => simp [intOf]; omega
      · have HC := hide (hI.digit hlt2 _ hc hD)
        clear hI
        replace hD := hide hD
        replace hc := hide hc
        go_wp2_with (go_at_call 12; refine (zzIsDigit_any _ _).mono ?_; rintro e w' ⟨rfl, rfl⟩; rw [hD.out])
        go_roundw
        case rel =>
          go_light
          exact ⟨p, j + 1, gs, ge, se, HC.out, rfl, by go_num⟩
        case measure => simp [intOf]; omega
    · have hje : j = s.size := by omega
      subst hje
      rw [← size_toList] at hI
      have hpm := cuts_unique hI.cuts HM
      subst hpm
      have hsz := hI.r3.lt
      have hp8 : p < 8 := by omega

      obtain ⟨x1, hx1⟩ := some_at ge p (by rw [hI.le]; exact hp8)
      have hE := row_cellN hI.r2 hx1
      clear hx1
      have fE := hI.r2.frozen p
      have I2 := hI.done_lo hp8
      rw [size_toList] at I2
      have c0 := row_cellN I2.r2 (I2.he 0 (by omega) (by omega))
      rw [show endOf s.data.toList 0 = Num.nd s.data.toList from rfl] at c0

      have cS := row_cellB I2.r3 (I2.hs 0 c (by omega) (by omega) hc)
      have t1 : ((p : Int) + 1 == 1) = false := beq_eq_false_iff_ne.2 (by omega)
      have tp : (p : Int) + 1 ≤ 8 := by omega
      have t3 : decide ((p : Int) + 1 < 3) = false := decide_eq_false (by omega)
      have t7 : decide (7 < (p : Int) + 1) = false := decide_eq_false (by omega)

      have tS : ((c.toNat : Int) == 46) = true := beq_iff_eq.2 (by have := hH.out; omega)
      have t12 : decide (12 ≤ (Num.nd s.data.toList : Int)) = false := decide_eq_false (by have := hC2.out hH.out; omega)

      have HS3 := hide (Inv3.start I2 wr.heap.size (by simp))
      replace I2 := hide I2
      clear hI
      generalize hn : Num.nd s.data.toList = n at *
      replace hn := hide hn
      generalize hge : ge.set p s.size = ge2 at *
      replace hge := hide hge
      go_wp2
      generalize hgw : wr.heap.size = g at *
      replace hgw := hide hgw
      go_loopw [14] (fun v14 wr2 => ∃ (k : Nat) (fs : List Fld), Inv3 s.data.toList w g (p + 1) gs ge2 se wr2 k fs ∧ v14 = .int .i64 k) (fun v14 _ => 7 - (intOf v14).toNat)
      case atStart => exact ⟨0, zero7, HS3.out, rfl⟩
      case round =>
        obtain ⟨k, fs, I3, rfl⟩ := hrel
        clear cS c0 hE fE HS3 I2
        by_cases hkk : k < p + 1 ∧ k < 6
        · obtain ⟨hkm, hk6⟩ := hkk
          have hcE := hide (row_cellN I3.i2.r2 (I3.i2.he k hkm (by omega)))
          have hcG := hide (row_cellN I3.i2.r1 (I3.i2.hg k hkm (by omega)))
          have cE := hcE.out
          have cG := hcG.out
          have hSE := st_le s.data.toList k
          have hEl : endOf s.data.toList k ≤ s.size := by
            have := endOf_le s.data.toList k (by
              cases k with
              | zero => exact Nat.zero_le _
              | succ k => have := HM.lt k (by omega); simp only [st]; omega)
            rw [size_toList] at this
            exact this
          have HWD := hide (wd_eq s.data.toList k)
          have r0 := hide (fun n => I3.i2.r0.drewN n)
          have rf := hide (fun n => I3.rf.drewN n)
          have hB := hide (fun n => below_drewN I3.i2.b n)
          have l7 := hide I3.l7
          have hfs := hide (size7 fs I3.l7)
          have hone := hide (rowOf_one fs)
          have tkm : decide ((k : Int) < (p : Int) + 1) = true := decide_eq_true (by omega)
          have tk6 : decide ((k : Int) < 6) = true := decide_eq_true (by omega)

          by_cases hk0 : k = 0
          · have tk0 : ((k : Int) == 0) = true := beq_iff_eq.2 (by omega)
            have hwid : Hid (wid k = 4) := by unfold Hid wid; rw [if_pos hk0]
            have tk3 : ((k : Int) == 3) = false := beq_eq_false_iff_ne.2 (by omega)
            have tkp : ¬ 0 < k := by omega
            replace hk0 := hide hk0

            by_cases hwb : (endOf s.data.toList k : Int) - st s.data.toList k < 1
            · have tw1 : decide ((endOf s.data.toList k : Int) - st s.data.toList k < 1) = true := decide_eq_true hwb

              have H2 : Hid ((dtf s.data.toList).2 = false) := by
                unfold Hid
                rw [HQ.out, I3.hgo]
                exact stage_bad_w s.data.toList _ k fs HM hkm hk6 (by rw [HWD.out]; left; omega)

              clear hwb
              replace I3 := hide I3

              generalize endOf s.data.toList k = E at *
              generalize st s.data.toList k = S at *

              go_wp2_with fail
              go_quiet (fail)

              go_wp2_with (first | (refine wpList_load_row rfl 33 (.tmp 13) rfl g rfl 33 (rowOf (fs)).toArray (0, 0) _ ?_ Try.underlying33 rfl ?_ ?_) | (refine wpList_store_row rfl 33 (.tmp 2) _ rfl w.heap.size (rowOf (fs)).toArray rfl rfl 33 (rowOf zero7).toArray ?_ ?_ ?_ hone.out ?_))
              · exact (rf.out nq)
              · rw [hfs.out]; kernel_rfl
              · exact (r0.out nq)
              · rw [hfs.out]; kernel_rfl
              · rw [hfs.out]; exact z7.out
              refine ret_row3 rfl w.heap.size 33 (rowOf (fs)) _ rfl (Row.setRow ((r0.out nq)) _) Try.underlying33 rfl (by rw [hfs.out]; kernel_rfl) rfl ⟨fs, false, false, rfl, l7.out, H2.out.symm, (fun h => by cases h), below_setRow ((hB.out nq)) w.heap.size (by omega) _⟩
            by_cases hwc : (4 : Int) < (endOf s.data.toList k : Int) - st s.data.toList k
            · have tw1 : decide ((endOf s.data.toList k : Int) - st s.data.toList k < 1) = false := decide_eq_false hwb
              have tw2 : decide ((4 : Int) < (endOf s.data.toList k : Int) - st s.data.toList k) = true := decide_eq_true hwc

              have H2 : Hid ((dtf s.data.toList).2 = false) := by
                unfold Hid
                rw [HQ.out, I3.hgo]
                exact stage_bad_w s.data.toList _ k fs HM hkm hk6 (by rw [HWD.out]; right; rw [hwid.out]; omega)
              clear hwc
              clear hwb
              replace I3 := hide I3

              generalize endOf s.data.toList k = E at *
              generalize st s.data.toList k = S at *

              go_wp2_with fail
              go_quiet (fail)

              go_wp2_with (first | (refine wpList_load_row rfl 33 (.tmp 13) rfl g rfl 33 (rowOf (fs)).toArray (0, 0) _ ?_ Try.underlying33 rfl ?_ ?_) | (refine wpList_store_row rfl 33 (.tmp 2) _ rfl w.heap.size (rowOf (fs)).toArray rfl rfl 33 (rowOf zero7).toArray ?_ ?_ ?_ hone.out ?_))
              · exact (rf.out nq)
              · rw [hfs.out]; kernel_rfl
              · exact (r0.out nq)
              · rw [hfs.out]; kernel_rfl
              · rw [hfs.out]; exact z7.out
              refine ret_row3 rfl w.heap.size 33 (rowOf (fs)) _ rfl (Row.setRow ((r0.out nq)) _) Try.underlying33 rfl (by rw [hfs.out]; kernel_rfl) rfl ⟨fs, false, false, rfl, l7.out, H2.out.symm, (fun h => by cases h), below_setRow ((hB.out nq)) w.heap.size (by omega) _⟩
            have tw1 : decide ((endOf s.data.toList k : Int) - st s.data.toList k < 1) = false := decide_eq_false hwb
            have tw2 : decide ((4 : Int) < (endOf s.data.toList k : Int) - st s.data.toList k) = false := decide_eq_false hwc
            have HV := hide (fun (x y : Int) (hx : x = (st s.data.toList k : Nat)) (hy : y = (endOf s.data.toList k : Nat)) w => value_at s (st s.data.toList k) (endOf s.data.toList k) x y hx hy w hs'.out hSE hEl (by omega) (fun j hj h1 h2 => by
              obtain ⟨c', hc', hd'⟩ := grp_digit s.data.toList k j h1 h2
              rw [get_toList s j hj] at hc'
              simp at hc'
              rw [hc']; exact hd'))
            have hw1 : Hid (1 ≤ wd s.data.toList k) := by unfold Hid; rw [HWD.out]; omega
            have hw2 : Hid (wd s.data.toList k ≤ wid k) := by unfold Hid; rw [HWD.out, hwid.out]; omega
            have hw6 : Hid (wd s.data.toList k ≤ 6) := by unfold Hid; rw [HWD.out]; omega
            obtain ⟨⟨y, d0, d1, d2⟩, f0, f1, f2, RS⟩ := row_store I3.rf (k := k) (by have := I3.l7; omega) fld0
            clear RS

            have HN := hide (fun n => (I3.drewN (n + 1)).next hkm hk6 hsz hw1.out hw2.out (.inl hk0.out) hw6.out)
            clear hwb hwc
            replace I3 := hide I3

            generalize endOf s.data.toList k = E at *
            generalize st s.data.toList k = S at *

            generalize dec ((s.data.toList.drop S).take (E - S)) = v at *
            generalize gf s.data.toList k = x at *

            go_wp2_with fail
            go_quiet (fail)

            go_wp2_with (fail)
            clear tk0 tk3 tkp tw1 tw2 tkm tk6
            try clear hcell
            try clear tA
            try clear tB
            have hki8 : (k : Int) < 8 := by omega
            have hki7 : (k : Int) < 7 := by omega
            have hki0 : (0 : Int) ≤ (k : Int) := by omega
            go_region_held3 (fun z => z.cell? ⟨w.heap.size + 1, k, none⟩ = some (.int .i64 S) ∧ z.cell? ⟨w.heap.size + 2, k, none⟩ = some (.int .i64 E)) (simp (disch := omega) only [cell3, World.cell?_drew, cell_drewN, cG, cE, and_self]) (first | (go_at_call 25; refine (HV.out _ _ rfl rfl _).mono ?_; rintro e w' ⟨rfl, rfl⟩))
            go_wp2
            go_roundw
            case rel =>
              go_light
              exact ⟨k + 1, fs.set k x, HN.out nq, by go_num⟩
            case measure => simp [intOf]; omega
          by_cases hk3 : k = 3
          · have tk0 : ((k : Int) == 0) = false := beq_eq_false_iff_ne.2 (by omega)
            have hwid : Hid (wid k = 2) := by unfold Hid wid; rw [if_neg hk0]
            have tk3 : ((k : Int) == 3) = true := beq_iff_eq.2 (by omega)
            have tkp : 0 < k := by omega
            replace hk3 := hide hk3
            clear hk0

            by_cases hwb : (endOf s.data.toList k : Int) - st s.data.toList k < 1
            · have tw1 : decide ((endOf s.data.toList k : Int) - st s.data.toList k < 1) = true := decide_eq_true hwb

              have H2 : Hid ((dtf s.data.toList).2 = false) := by
                unfold Hid
                rw [HQ.out, I3.hgo]
                exact stage_bad_w s.data.toList _ k fs HM hkm hk6 (by rw [HWD.out]; left; omega)

              clear hwb
              replace I3 := hide I3

              generalize endOf s.data.toList k = E at *
              generalize st s.data.toList k = S at *

              go_wp2_with fail
              go_quiet (fail)

              go_wp2_with (first | (refine wpList_load_row rfl 33 (.tmp 13) rfl g rfl 33 (rowOf (fs)).toArray (0, 0) _ ?_ Try.underlying33 rfl ?_ ?_) | (refine wpList_store_row rfl 33 (.tmp 2) _ rfl w.heap.size (rowOf (fs)).toArray rfl rfl 33 (rowOf zero7).toArray ?_ ?_ ?_ hone.out ?_))
              · exact (rf.out nq)
              · rw [hfs.out]; kernel_rfl
              · exact (r0.out nq)
              · rw [hfs.out]; kernel_rfl
              · rw [hfs.out]; exact z7.out
              refine ret_row3 rfl w.heap.size 33 (rowOf (fs)) _ rfl (Row.setRow ((r0.out nq)) _) Try.underlying33 rfl (by rw [hfs.out]; kernel_rfl) rfl ⟨fs, false, false, rfl, l7.out, H2.out.symm, (fun h => by cases h), below_setRow ((hB.out nq)) w.heap.size (by omega) _⟩
            by_cases hwc : (2 : Int) < (endOf s.data.toList k : Int) - st s.data.toList k
            · have tw1 : decide ((endOf s.data.toList k : Int) - st s.data.toList k < 1) = false := decide_eq_false hwb
              have tw2 : decide ((2 : Int) < (endOf s.data.toList k : Int) - st s.data.toList k) = true := decide_eq_true hwc

              have H2 : Hid ((dtf s.data.toList).2 = false) := by
                unfold Hid
                rw [HQ.out, I3.hgo]
                exact stage_bad_w s.data.toList _ k fs HM hkm hk6 (by rw [HWD.out]; right; rw [hwid.out]; omega)
              clear hwc
              clear hwb
              replace I3 := hide I3

              generalize endOf s.data.toList k = E at *
              generalize st s.data.toList k = S at *

              go_wp2_with fail
              go_quiet (fail)

              go_wp2_with (first | (refine wpList_load_row rfl 33 (.tmp 13) rfl g rfl 33 (rowOf (fs)).toArray (0, 0) _ ?_ Try.underlying33 rfl ?_ ?_) | (refine wpList_store_row rfl 33 (.tmp 2) _ rfl w.heap.size (rowOf (fs)).toArray rfl rfl 33 (rowOf zero7).toArray ?_ ?_ ?_ hone.out ?_))
              · exact (rf.out nq)
              · rw [hfs.out]; kernel_rfl
              · exact (r0.out nq)
              · rw [hfs.out]; kernel_rfl
              · rw [hfs.out]; exact z7.out
              refine ret_row3 rfl w.heap.size 33 (rowOf (fs)) _ rfl (Row.setRow ((r0.out nq)) _) Try.underlying33 rfl (by rw [hfs.out]; kernel_rfl) rfl ⟨fs, false, false, rfl, l7.out, H2.out.symm, (fun h => by cases h), below_setRow ((hB.out nq)) w.heap.size (by omega) _⟩
            have tw1 : decide ((endOf s.data.toList k : Int) - st s.data.toList k < 1) = false := decide_eq_false hwb
            have tw2 : decide ((2 : Int) < (endOf s.data.toList k : Int) - st s.data.toList k) = false := decide_eq_false hwc
            have HV := hide (fun (x y : Int) (hx : x = (st s.data.toList k : Nat)) (hy : y = (endOf s.data.toList k : Nat)) w => value_at s (st s.data.toList k) (endOf s.data.toList k) x y hx hy w hs'.out hSE hEl (by omega) (fun j hj h1 h2 => by
              obtain ⟨c', hc', hd'⟩ := grp_digit s.data.toList k j h1 h2
              rw [get_toList s j hj] at hc'
              simp at hc'
              rw [hc']; exact hd'))
            have hw1 : Hid (1 ≤ wd s.data.toList k) := by unfold Hid; rw [HWD.out]; omega
            have hw2 : Hid (wd s.data.toList k ≤ wid k) := by unfold Hid; rw [HWD.out, hwid.out]; omega
            have hw6 : Hid (wd s.data.toList k ≤ 6) := by unfold Hid; rw [HWD.out]; omega
            obtain ⟨⟨y, d0, d1, d2⟩, f0, f1, f2, RS⟩ := row_store I3.rf (k := k) (by have := I3.l7; omega) fld0
            clear RS

            obtain ⟨c3, hc3, hr3⟩ := rest_cons s.data.toList 2 (HM.lt 2 (by have := hk3.out; omega))
            clear hr3
            have hcell := row_cellB I3.i2.r3 (I3.i2.hs 2 c3 (by have := hk3.out; omega) (by omega) hc3)
            replace hc3 := hide hc3
            by_cases h32 : c3.toNat = 32
            · have tA : ((c3.toNat : Int) != 32) = false := by rw [h32]; rfl
              replace h32 := hide h32

              have HN := hide (fun n => (I3.drewN (n + 1)).next hkm hk6 hsz hw1.out hw2.out (.inr ⟨c3, by rw [hk3.out]; exact hc3.out, by rw [hk3.out, delim_three, h32.out]; rfl⟩) hw6.out)
              clear hwb hwc
              replace I3 := hide I3

              generalize endOf s.data.toList k = E at *
              generalize st s.data.toList k = S at *

              generalize dec ((s.data.toList.drop S).take (E - S)) = v at *
              generalize gf s.data.toList k = x at *

              go_wp2_with fail
              go_quiet (fail)

              go_wp2_with (fail)
              clear tk0 tk3 tkp tw1 tw2 tkm tk6
              try clear hcell
              try clear tA
              try clear tB
              have hki8 : (k : Int) < 8 := by omega
              have hki7 : (k : Int) < 7 := by omega
              have hki0 : (0 : Int) ≤ (k : Int) := by omega
              go_region_held3 (fun z => z.cell? ⟨w.heap.size + 1, k, none⟩ = some (.int .i64 S) ∧ z.cell? ⟨w.heap.size + 2, k, none⟩ = some (.int .i64 E)) (simp (disch := omega) only [cell3, World.cell?_drew, cell_drewN, cG, cE, and_self]) (first | (go_at_call 25; refine (HV.out _ _ rfl rfl _).mono ?_; rintro e w' ⟨rfl, rfl⟩))
              go_wp2
              go_roundw
              case rel =>
                go_light
                exact ⟨k + 1, fs.set k x, HN.out nq, by go_num⟩
              case measure => simp [intOf]; omega
            have tA : ((c3.toNat : Int) != 32) = true := by simp only [bne_iff_ne, ne_eq]; omega
            by_cases h84 : c3.toNat = 84
            · have tB : ((c3.toNat : Int) != 84) = false := by rw [h84]; rfl
              replace h84 := hide h84

              have HN := hide (fun n => (I3.drewN (n + 1)).next hkm hk6 hsz hw1.out hw2.out (.inr ⟨c3, by rw [hk3.out]; exact hc3.out, by rw [hk3.out, delim_three, h84.out]; rfl⟩) hw6.out)
              clear hwb hwc
              replace I3 := hide I3

              generalize endOf s.data.toList k = E at *
              generalize st s.data.toList k = S at *

              generalize dec ((s.data.toList.drop S).take (E - S)) = v at *
              generalize gf s.data.toList k = x at *

              go_wp2_with fail
              go_quiet (fail)

              go_wp2_with (fail)
              clear tk0 tk3 tkp tw1 tw2 tkm tk6
              try clear hcell
              try clear tA
              try clear tB
              have hki8 : (k : Int) < 8 := by omega
              have hki7 : (k : Int) < 7 := by omega
              have hki0 : (0 : Int) ≤ (k : Int) := by omega
              go_region_held3 (fun z => z.cell? ⟨w.heap.size + 1, k, none⟩ = some (.int .i64 S) ∧ z.cell? ⟨w.heap.size + 2, k, none⟩ = some (.int .i64 E)) (simp (disch := omega) only [cell3, World.cell?_drew, cell_drewN, cG, cE, and_self]) (first | (go_at_call 25; refine (HV.out _ _ rfl rfl _).mono ?_; rintro e w' ⟨rfl, rfl⟩))
              go_wp2
              go_roundw
              case rel =>
                go_light
                exact ⟨k + 1, fs.set k x, HN.out nq, by go_num⟩
              case measure => simp [intOf]; omega
            have tB : ((c3.toNat : Int) != 84) = true := by simp only [bne_iff_ne, ne_eq]; omega
            replace h32 := hide h32
            replace h84 := hide h84

            have H2 : Hid ((dtf s.data.toList).2 = false) := by
              unfold Hid
              rw [HQ.out, I3.hgo]
              exact stage_bad_d s.data.toList _ k fs HM hkm hk6 (by omega) c3 (by rw [hk3.out]; exact hc3.out) (by rw [hk3.out, delim_three]; simp [h32.out, h84.out])
            clear hwb hwc
            replace I3 := hide I3

            generalize endOf s.data.toList k = E at *
            generalize st s.data.toList k = S at *

            generalize dec ((s.data.toList.drop S).take (E - S)) = v at *

            go_wp2_with fail
            go_quiet (fail)

            go_wp2_with (first | (refine wpList_load_row rfl 33 (.tmp 13) rfl g rfl 33 (rowOf (fs)).toArray (0, 0) _ ?_ Try.underlying33 rfl ?_ ?_) | (refine wpList_store_row rfl 33 (.tmp 2) _ rfl w.heap.size (rowOf (fs)).toArray rfl rfl 33 (rowOf zero7).toArray ?_ ?_ ?_ hone.out ?_))
            · exact (rf.out nq)
            · rw [hfs.out]; kernel_rfl
            · exact (r0.out nq)
            · rw [hfs.out]; kernel_rfl
            · rw [hfs.out]; exact z7.out
            refine ret_row3 rfl w.heap.size 33 (rowOf (fs)) _ rfl (Row.setRow ((r0.out nq)) _) Try.underlying33 rfl (by rw [hfs.out]; kernel_rfl) rfl ⟨fs, false, false, rfl, l7.out, H2.out.symm, (fun h => by cases h), below_setRow ((hB.out nq)) w.heap.size (by omega) _⟩
          · have tk0 : ((k : Int) == 0) = false := beq_eq_false_iff_ne.2 (by omega)
            have hwid : Hid (wid k = 2) := by unfold Hid wid; rw [if_neg hk0]
            have tk3 : ((k : Int) == 3) = false := beq_eq_false_iff_ne.2 (by omega)
            have tkp : 0 < k := by omega
            replace hk3 := hide hk3
            clear hk0

            by_cases hwb : (endOf s.data.toList k : Int) - st s.data.toList k < 1
            · have tw1 : decide ((endOf s.data.toList k : Int) - st s.data.toList k < 1) = true := decide_eq_true hwb

              have H2 : Hid ((dtf s.data.toList).2 = false) := by
                unfold Hid
                rw [HQ.out, I3.hgo]
                exact stage_bad_w s.data.toList _ k fs HM hkm hk6 (by rw [HWD.out]; left; omega)

              clear hwb
              replace I3 := hide I3

              generalize endOf s.data.toList k = E at *
              generalize st s.data.toList k = S at *

              go_wp2_with fail
              go_quiet (fail)

              go_wp2_with (first | (refine wpList_load_row rfl 33 (.tmp 13) rfl g rfl 33 (rowOf (fs)).toArray (0, 0) _ ?_ Try.underlying33 rfl ?_ ?_) | (refine wpList_store_row rfl 33 (.tmp 2) _ rfl w.heap.size (rowOf (fs)).toArray rfl rfl 33 (rowOf zero7).toArray ?_ ?_ ?_ hone.out ?_))
              · exact (rf.out nq)
              · rw [hfs.out]; kernel_rfl
              · exact (r0.out nq)
              · rw [hfs.out]; kernel_rfl
              · rw [hfs.out]; exact z7.out
              refine ret_row3 rfl w.heap.size 33 (rowOf (fs)) _ rfl (Row.setRow ((r0.out nq)) _) Try.underlying33 rfl (by rw [hfs.out]; kernel_rfl) rfl ⟨fs, false, false, rfl, l7.out, H2.out.symm, (fun h => by cases h), below_setRow ((hB.out nq)) w.heap.size (by omega) _⟩
            by_cases hwc : (2 : Int) < (endOf s.data.toList k : Int) - st s.data.toList k
            · have tw1 : decide ((endOf s.data.toList k : Int) - st s.data.toList k < 1) = false := decide_eq_false hwb
              have tw2 : decide ((2 : Int) < (endOf s.data.toList k : Int) - st s.data.toList k) = true := decide_eq_true hwc

              have H2 : Hid ((dtf s.data.toList).2 = false) := by
                unfold Hid
                rw [HQ.out, I3.hgo]
                exact stage_bad_w s.data.toList _ k fs HM hkm hk6 (by rw [HWD.out]; right; rw [hwid.out]; omega)
              clear hwc
              clear hwb
              replace I3 := hide I3

              generalize endOf s.data.toList k = E at *
              generalize st s.data.toList k = S at *

              go_wp2_with fail
              go_quiet (fail)

              go_wp2_with (first | (refine wpList_load_row rfl 33 (.tmp 13) rfl g rfl 33 (rowOf (fs)).toArray (0, 0) _ ?_ Try.underlying33 rfl ?_ ?_) | (refine wpList_store_row rfl 33 (.tmp 2) _ rfl w.heap.size (rowOf (fs)).toArray rfl rfl 33 (rowOf zero7).toArray ?_ ?_ ?_ hone.out ?_))
              · exact (rf.out nq)
              · rw [hfs.out]; kernel_rfl
              · exact (r0.out nq)
              · rw [hfs.out]; kernel_rfl
              · rw [hfs.out]; exact z7.out
              refine ret_row3 rfl w.heap.size 33 (rowOf (fs)) _ rfl (Row.setRow ((r0.out nq)) _) Try.underlying33 rfl (by rw [hfs.out]; kernel_rfl) rfl ⟨fs, false, false, rfl, l7.out, H2.out.symm, (fun h => by cases h), below_setRow ((hB.out nq)) w.heap.size (by omega) _⟩
            have tw1 : decide ((endOf s.data.toList k : Int) - st s.data.toList k < 1) = false := decide_eq_false hwb
            have tw2 : decide ((2 : Int) < (endOf s.data.toList k : Int) - st s.data.toList k) = false := decide_eq_false hwc
            have HV := hide (fun (x y : Int) (hx : x = (st s.data.toList k : Nat)) (hy : y = (endOf s.data.toList k : Nat)) w => value_at s (st s.data.toList k) (endOf s.data.toList k) x y hx hy w hs'.out hSE hEl (by omega) (fun j hj h1 h2 => by
              obtain ⟨c', hc', hd'⟩ := grp_digit s.data.toList k j h1 h2
              rw [get_toList s j hj] at hc'
              simp at hc'
              rw [hc']; exact hd'))
            have hw1 : Hid (1 ≤ wd s.data.toList k) := by unfold Hid; rw [HWD.out]; omega
            have hw2 : Hid (wd s.data.toList k ≤ wid k) := by unfold Hid; rw [HWD.out, hwid.out]; omega
            have hw6 : Hid (wd s.data.toList k ≤ 6) := by unfold Hid; rw [HWD.out]; omega
            obtain ⟨⟨y, d0, d1, d2⟩, f0, f1, f2, RS⟩ := row_store I3.rf (k := k) (by have := I3.l7; omega) fld0
            clear RS

            obtain ⟨ck, hck, hrk⟩ := rest_cons s.data.toList (k - 1) (HM.lt (k - 1) (by omega))
            clear hrk
            have hcell := row_cellB I3.i2.r3 (I3.i2.hs (k - 1) ck (by omega) (by omega) hck)
            rw [show k - 1 + 1 = k from by omega] at hcell
            replace hck := hide hck
            cases hpu : punct ck
            · replace hpu := hide hpu

              have H2 : Hid ((dtf s.data.toList).2 = false) := by
                unfold Hid
                rw [HQ.out, I3.hgo]
                exact stage_bad_d s.data.toList _ k fs HM hkm hk6 (by omega) ck hck.out (by rw [delim_else ck k hk3.out]; exact hpu.out)
              clear hwb hwc
              replace I3 := hide I3

              generalize endOf s.data.toList k = E at *
              generalize st s.data.toList k = S at *

              generalize dec ((s.data.toList.drop S).take (E - S)) = v at *

              go_wp2_with fail
              go_quiet (fail)

              go_wp2_with (first | (go_at_call 18; refine (zzPunct_any _ _).mono ?_; rintro e w' ⟨rfl, rfl⟩; rw [hpu.out]) | (refine wpList_load_row rfl 33 (.tmp 13) rfl g rfl 33 (rowOf (fs)).toArray (0, 0) _ ?_ Try.underlying33 rfl ?_ ?_) | (refine wpList_store_row rfl 33 (.tmp 2) _ rfl w.heap.size (rowOf (fs)).toArray rfl rfl 33 (rowOf zero7).toArray ?_ ?_ ?_ hone.out ?_))
              · exact (rf.out nq)
              · rw [hfs.out]; kernel_rfl
              · exact (r0.out nq)
              · rw [hfs.out]; kernel_rfl
              · rw [hfs.out]; exact z7.out
              refine ret_row3 rfl w.heap.size 33 (rowOf (fs)) _ rfl (Row.setRow ((r0.out nq)) _) Try.underlying33 rfl (by rw [hfs.out]; kernel_rfl) rfl ⟨fs, false, false, rfl, l7.out, H2.out.symm, (fun h => by cases h), below_setRow ((hB.out nq)) w.heap.size (by omega) _⟩
            · replace hpu := hide hpu

              have HN := hide (fun n => (I3.drewN (n + 1)).next hkm hk6 hsz hw1.out hw2.out (.inr ⟨ck, hck.out, by rw [delim_else ck k hk3.out]; exact hpu.out⟩) hw6.out)
              clear hwb hwc
              replace I3 := hide I3

              generalize endOf s.data.toList k = E at *
              generalize st s.data.toList k = S at *

              generalize dec ((s.data.toList.drop S).take (E - S)) = v at *
              generalize gf s.data.toList k = x at *

              go_wp2_with fail
              go_quiet (fail)

              go_wp2_with (go_at_call 18; refine (zzPunct_any _ _).mono ?_; rintro e w' ⟨rfl, rfl⟩; rw [hpu.out])
              clear tk0 tk3 tkp tw1 tw2 tkm tk6
              try clear hcell
              try clear tA
              try clear tB
              have hki8 : (k : Int) < 8 := by omega
              have hki7 : (k : Int) < 7 := by omega
              have hki0 : (0 : Int) ≤ (k : Int) := by omega
              go_region_held3 (fun z => z.cell? ⟨w.heap.size + 1, k, none⟩ = some (.int .i64 S) ∧ z.cell? ⟨w.heap.size + 2, k, none⟩ = some (.int .i64 E)) (simp (disch := omega) only [cell3, World.cell?_drew, cell_drewN, cG, cE, and_self]) (first | (go_at_call 25; refine (HV.out _ _ rfl rfl _).mono ?_; rintro e w' ⟨rfl, rfl⟩))
              go_wp2
              go_roundw
              case rel =>
                go_light
                exact ⟨k + 1, fs.set k x, HN.out nq, by go_num⟩
              case measure => simp [intOf]; omega

        · by_cases hp6 : p + 1 < 7
          · have hk : k = p + 1 := by have := I3.km; have := I3.k6; omega
            have hD : Hid (dtf s.data.toList = (fs, true)) := by
              unfold Hid
              rw [HQ.out, I3.hgo, hk]
              exact stage_end s.data.toList _ fs HM hm3 (by omega)
            have tkm : decide ((k : Int) < (p : Int) + 1) = false := decide_eq_false (by omega)
            have tm7 : ((p : Int) + 1 == 7) = false := beq_eq_false_iff_ne.2 (by omega)
            have r0 := hide I3.i2.r0
            have rf := hide I3.rf
            have hB := hide I3.i2.b
            have l7 := hide I3.l7
            have hfs := hide (size7 fs I3.l7)
            have hone := hide (rowOf_one fs)
            clear hkk hp6 I3
            replace hk := hide hk

            go_wp2_with (first | (refine wpList_load_row rfl 33 (.tmp 13) rfl g rfl 33 (rowOf (fs)).toArray (0, 0) _ ?_ Try.underlying33 rfl ?_ ?_) | (refine wpList_store_row rfl 33 (.tmp 2) _ rfl w.heap.size (rowOf (fs)).toArray rfl rfl 33 (rowOf zero7).toArray ?_ ?_ ?_ hone.out ?_))
            · exact rf.out
            · rw [hfs.out]; kernel_rfl
            · exact r0.out
            · rw [hfs.out]; kernel_rfl
            · rw [hfs.out]; exact z7.out
            refine ret_row3 rfl w.heap.size 33 (rowOf (fs)) _ rfl (Row.setRow (r0.out) _) Try.underlying33 rfl (by rw [hfs.out]; kernel_rfl) rfl ⟨fs, true, true, rfl, l7.out, (by rw [hD.out]), (fun _ => by rw [hD.out]), below_setRow (hB.out) w.heap.size (by omega) _⟩
          · have hk : k = 6 := by have := I3.km; have := I3.k6; omega
            have hp : p = 6 := by omega
            have HM7 : Cuts s.data.toList 7 := by rw [hp] at HM; exact HM
            obtain ⟨c6, hc6, hfin⟩ := fin_seven s.data.toList fs HM7
            have hD : Hid (dtf s.data.toList = if c6.toNat = 46 then (fs.set 6 (gf s.data.toList 6), true) else (fs, false)) := by
              unfold Hid
              have h9 := I3.hgo
              rw [hk] at h9
              rw [HQ.out, h9, ← hfin]
            have tkm : decide ((k : Int) < (p : Int) + 1) = true := decide_eq_true (by omega)
            have tk6 : decide ((k : Int) < 6) = false := decide_eq_false (by omega)
            have tm7 : ((p : Int) + 1 == 7) = true := beq_iff_eq.2 (by omega)
            have hcell := row_cellB I3.i2.r3 (I3.i2.hs 5 c6 (by omega) (by omega) hc6)
            have cG := row_cellN I3.i2.r1 (I3.i2.hg 6 (by omega) (by omega))
            have hstl : st s.data.toList 6 ≤ s.size := by have := HM7.lt 5 (by omega); rw [size_toList] at this; simp only [st]; omega
            have HRF := hide (fun w => runField_any s (st s.data.toList 6) w hs hstl)
            rw [show fld (s.data.toList.drop (st s.data.toList 6)) = gf s.data.toList 6 from rfl] at HRF
            simp only [Fld.arr] at HRF
            have r0 := hide I3.i2.r0
            have rf := hide I3.rf
            have hB := hide I3.i2.b
            have l7 := hide I3.l7
            have hfs := hide (size7 fs I3.l7)
            have hone := hide (rowOf_one fs)
            have hgl := I3.rf.lt
            clear hkk hp6 I3 hfin hc6 HM7
            replace hk := hide hk
            replace hp := hide hp
            generalize st s.data.toList 6 = S at *
            generalize gf s.data.toList 6 = x at *
            by_cases h46 : c6.toNat = 46
            · rw [if_pos h46] at hD
              have tD : ((c6.toNat : Int) != 46) = false := by rw [h46]; rfl
              replace h46 := hide h46
              go_wp2_with fail
              refine (HRF.out _).mono ?_; rintro e w1 ⟨rfl, hb1⟩
              have q0 := r0.out.below hb1 r0.out.lt
              have q1 := rf.out.below hb1 rf.out.lt
              have hb2 := hB.out.trans (hb1.mono (by omega))
              obtain ⟨⟨y, d0, d1, d2⟩, f0, f1, f2, RS⟩ := row_store6 q1 l7.out x
              have RA := row_other6 q0 (g' := g) (by omega) x
              have RC := below6 hb2 g (by omega) x
              unfold st6 at RS RA RC
              replace RS := hide RS
              replace RA := hide RA
              replace RC := hide RC
              clear q0 q1 hb1 hb2
              clear hfs hone
              have hl7 : Hid ((fs.set 6 x).length = 7) := by unfold Hid; simp [l7.out]
              have hfs := hide (size7 (fs.set 6 x) hl7.out)
              have hone := hide (rowOf_one (fs.set 6 x))

              go_wp2_with (first | (refine wpList_load_row rfl 33 (.tmp 13) rfl g rfl 33 (rowOf (fs.set 6 x)).toArray (0, 0) _ ?_ Try.underlying33 rfl ?_ ?_) | (refine wpList_store_row rfl 33 (.tmp 2) _ rfl w.heap.size (rowOf (fs.set 6 x)).toArray rfl rfl 33 (rowOf zero7).toArray ?_ ?_ ?_ hone.out ?_))
              · exact RS.out
              · rw [hfs.out]; kernel_rfl
              · exact RA.out
              · rw [hfs.out]; kernel_rfl
              · rw [hfs.out]; exact z7.out
              refine ret_row3 rfl w.heap.size 33 (rowOf (fs.set 6 x)) _ rfl (Row.setRow (RA.out) _) Try.underlying33 rfl (by rw [hfs.out]; kernel_rfl) rfl ⟨fs.set 6 x, true, true, rfl, hl7.out, (by rw [hD.out]), (fun _ => by rw [hD.out]), below_setRow (RC.out) w.heap.size (by omega) _⟩
            · rw [if_neg h46] at hD
              have tD : ((c6.toNat : Int) != 46) = true := by simp only [bne_iff_ne, ne_eq]; omega
              replace h46 := hide h46

              go_wp2_with (first | (refine wpList_load_row rfl 33 (.tmp 13) rfl g rfl 33 (rowOf (fs)).toArray (0, 0) _ ?_ Try.underlying33 rfl ?_ ?_) | (refine wpList_store_row rfl 33 (.tmp 2) _ rfl w.heap.size (rowOf (fs)).toArray rfl rfl 33 (rowOf zero7).toArray ?_ ?_ ?_ hone.out ?_))
              · exact rf.out
              · rw [hfs.out]; kernel_rfl
              · exact r0.out
              · rw [hfs.out]; kernel_rfl
              · rw [hfs.out]; exact z7.out
              refine ret_row3 rfl w.heap.size 33 (rowOf (fs)) _ rfl (Row.setRow (r0.out) _) Try.underlying33 rfl (by rw [hfs.out]; kernel_rfl) rfl ⟨fs, false, false, rfl, l7.out, (by rw [hD.out]), (fun h => by cases h), below_setRow (hB.out) w.heap.size (by omega) _⟩

end Go.Proofs.Qxb6601586a.Dt
