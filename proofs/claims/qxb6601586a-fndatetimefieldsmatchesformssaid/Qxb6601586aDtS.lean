/-
  WALK: zzCompactModel.
-/
import Derived.Test.Qxb6601586aDtR
import Derived.Deep.RegionHeld3
import Derived.Deep.MidRow
namespace Go.Proofs.Qxb6601586a.Dt
open Go.RowKit
set_option linter.unusedVariables false
set_option linter.unusedSimpArgs false

theorem value_at (s : ByteArray) (a b : Nat) (x y : Int) (hx : x = a) (hy : y = b) (w : World) (hs : s.size ≤ maxLen) (hab : a ≤ b) (hb : b ≤ s.size) (h6 : b - a ≤ 6) (hd : ∀ j (h : j < s.size), a ≤ j → j < b → Num.isD s[j] = true) :
    Calls Try.prog 25 #[.string s, .int .i64 x, .int .i64 y] w fun e w' => e = .returned (.int .i64 (dec ((s.data.toList.drop a).take (b - a)))) ∧ w' = w := by
  subst hx; subst hy
  exact value_any s a b w hs hab hb h6 hd

/-- the two rows that the last statement reads and writes -/
def Two (B : Nat) (cs : List Value) (x : World) : Prop := Row x (B + 1) cs 33 ∧ ∃ vs : List Value, vs.length = 21 ∧ Row x B vs 33
theorem two_load (B : Nat) (cs : List Value) (hc : cs.length = 21) (x : World) (h : Two B cs x) :
    (Instr.loadAt 33 (.pointer (some ⟨B + 1, 0, none⟩))).run Try.prog x = .ok (.agg cs.toArray) x := by
  refine run_loadAt_mid x (B + 1) 0 33 cs _ (fun j v hv => ?_) Try.underlying33 rfl (by rw [hc]; kernel_rfl)
  rw [Nat.zero_add, h.1.cell j]; exact hv
theorem two_store (B : Nat) (cs : List Value) (hc : cs.length = 21) (h1 : cs.toArray.all (·.oneCell') = true) (x : World) (h : Two B cs x) :
    (Instr.storeAt 33 (.pointer (some ⟨B, 0, none⟩)) (.agg cs.toArray)).run Try.prog x = .ok () (x.setRow B cs.toArray) := by
  obtain ⟨vs, hv, hr⟩ := h.2
  have hz : cs.toArray.size = vs.toArray.size := by simp [hc, hv]
  have := run_storeVar_row (P := Try.prog) x B 33 33 vs.toArray cs.toArray hr (by rw [show cs.toArray.size = 21 from by simp [hc]]; kernel_rfl) hz.symm h1
  simp only [Instr.storeAt, Instr.sureAddr, Sem.run_bind, Sem.run_pure, Result.andThen_ok, this]
theorem wrap_lo (n : Int) (h0 : 0 ≤ n) (h1 : n ≤ 9223372036854775807) : IntKind.i64.wrap n = n := by
  have hm : n % 18446744073709551616 = n := by omega
  unfold IntKind.wrap
  simp [IntKind.bits, IntKind.signed, hm]
  omega
theorem wrap2 (z : Int) (q : Nat) (h0 : 0 ≤ z) (h1 : z ≤ 100) (hq : q ≤ 2000000) : IntKind.i64.wrap (IntKind.i64.wrap z + q) = z + q := by
  rw [wrap_lo z h0 (by omega), wrap_lo _ (by omega) (by omega)]
theorem wp_store_two {op : Oper} {a : Act} {w : World} {K : Act → World → Prop} {Q : Exit → Act → World → Prop} (x y : Operand) (ho : op.op = .store 33 x y)
    (B : Nat) (cs : List Value) (hx : a.eval x = .pointer (some ⟨B, 0, none⟩)) (hy : a.eval y = .agg cs.toArray) (hc : cs.length = 21) (h1 : cs.toArray.all (·.oneCell') = true) (hS : Two B cs w)
    (h : K (a.put op.dst undef) (w.setRow B cs.toArray)) : op.wp Try.prog a w K Q := by
  unfold Oper.wp execOp
  simp only [ho, hx, hy, Sem.run_bind, two_store B cs hc h1 w hS, Result.andThen_ok, Sem.run_pure]
  exact h
theorem Two.range {B : Nat} {cs : List Value} {x : World} (h : Two B cs x) : x.rangeAt (B + 1) 0 cs := fun j v hv => by
  rw [Nat.zero_add, h.1.cell j]; exact hv
theorem Two.set {B : Nat} {cs : List Value} {x : World} (h : Two B cs x) (hc : cs.length = 21) : Two B cs (x.setRow B cs.toArray) := by
  obtain ⟨h1, vs, hv, hr⟩ := h
  exact ⟨h1.setRowOther B _ (by omega), cs, hc, hr.setRow cs⟩
theorem Two.drew {B : Nat} {cs : List Value} {x : World} (h : Two B cs x) : Two B cs x.drew := h

set_option maxRecDepth 100000 in
set_option maxHeartbeats 4000000 in
theorem cm_four (s : ByteArray) (ni : Int) (n yw cnt : Nat) (w : World) (hs : s.size ≤ 1048576) (hn : n = Num.nd s.data.toList)
    (h : n = 6 ∧ yw = 2 ∧ cnt = 3 ∧ ni = 6 ∨ n = 12 ∧ yw = 2 ∧ cnt = 6 ∧ ni = 12 ∨ n = 8 ∧ yw = 4 ∧ cnt = 3 ∧ ni = 8 ∨ n = 14 ∧ yw = 4 ∧ cnt = 6 ∧ ni = 14) :
    Calls Try.prog 24 #[.string s, .int .i64 ni] w fun e w' => e = .returned (.tuple #[.agg (rowOf (compFin s.data.toList n (comp s.data.toList yw cnt)).1).toArray, .bool (compFin s.data.toList n (comp s.data.toList yw cnt)).2]) ∧ Below w.heap.size w w' := by
  have hs' : Hid (s.size ≤ maxLen) := by unfold Hid maxLen; omega
  have HP : Hid (posn yw cnt = n) := by
    unfold Hid posn
    rcases h with ⟨rfl, rfl, rfl, rfl⟩ | ⟨rfl, rfl, rfl, rfl⟩ | ⟨rfl, rfl, rfl, rfl⟩ | ⟨rfl, rfl, rfl, rfl⟩ <;> rfl
  have hns : n ≤ s.size := by have := nd_le' s.data.toList; rw [size_toList] at this; omega
  have hc6 : cnt ≤ 6 := by omega
  have HDg : Hid (∀ j (h : j < s.size), j < n → Num.isD s[j] = true) := fun j h h1 => by
    have := run_digit s 0 j h (by omega)
    simp only [List.drop_zero, Nat.zero_add] at this
    exact this (by omega)
  have HT1 : Hid (n < s.size → (ni == (s.size : Int)) = false) := fun h1 => beq_eq_false_iff_ne.2 (by omega)
  have HT2 : Hid (n = s.size → (ni == (s.size : Int)) = true) := fun h1 => beq_iff_eq.2 (by omega)
  have HNI : Hid (ni = n) := by unfold Hid; omega
  have HND := hide hn
  clear hn
  obtain ⟨Y, HY⟩ : ∃ Y, Hid (Y = yw) := ⟨_, hide rfl⟩
  obtain ⟨C, HC⟩ : ∃ C, Hid (C = cnt) := ⟨_, hide rfl⟩
  obtain ⟨N, HN⟩ : ∃ N, Hid (N = n) := ⟨_, hide rfl⟩
  have HP2 : Hid (posn Y C = N) := by unfold Hid; rw [HY.out, HC.out, HN.out]; exact HP.out
  have hNs : N ≤ s.size := by rw [HN.out]; exact hns
  have hC6 : C ≤ 6 := by rw [HC.out]; exact hc6
  have hC0 : 3 ≤ C := by rw [HC.out]; omega
  have HG : Hid (compFin s.data.toList n (comp s.data.toList yw cnt) = compFin s.data.toList N (comp s.data.toList Y C)) := by unfold Hid; rw [HY.out, HC.out, HN.out]
  obtain ⟨R, HR⟩ : ∃ R, Hid (compFin s.data.toList N (comp s.data.toList Y C) = R) := ⟨_, hide rfl⟩
  rw [HG.out, HR.out]
  rw [← HN.out] at HDg HT1 HT2 HND
  clear HG HP hns hc6
  rcases h with ⟨rfl, rfl, rfl, rfl⟩ | ⟨rfl, rfl, rfl, rfl⟩ | ⟨rfl, rfl, rfl, rfl⟩ | ⟨rfl, rfl, rfl, rfl⟩
  all_goals
    go_enter Try.func24, Try.ntmps24
    go_wp2
    go_loopw [9] (fun v9 wr => ∃ k : Nat, k ≤ C ∧ Row wr w.heap.size (rowOf zero7) 33 ∧ Row wr (w.heap.size + 1) (rowOf (comp s.data.toList Y k)) 33 ∧ Below w.heap.size w wr ∧ v9 = .int .i64 k) (fun v9 _ => 6 - (intOf v9).toNat)
    case atStart =>
      exact ⟨0, by omega, (Row.new w (rowOf zero7) 33 _ rfl).alloc _ (by simp <;> omega), (Row.new _ (rowOf zero7) 33 _ (by simp <;> omega)), ((Below.refl _ _).alloc (by simp <;> omega) _).alloc (by simp <;> omega) _, rfl⟩
    case round =>
      obtain ⟨k, hk, r0, r1, hb, rfl⟩ := hrel
      by_cases hlt : k < C
      · have hpm := posn_mono Y k C hlt
        rw [HP2.out] at hpm
        have hwd : wdt Y k ≤ 4 := by unfold wdt; have := HY.out; split <;> omega
        have HV := hide (fun (x y : Int) (hx : x = (posn Y k : Nat)) (hy : y = (posn Y k + wdt Y k : Nat)) w => value_at s (posn Y k) (posn Y k + wdt Y k) x y hx hy w hs'.out (by omega) (by omega) (by omega) (fun j hj h1 h2 => HDg.out j hj (by omega)))
        have HC2 := hide (comp_succ s.data.toList Y k)
        rw [at_eq s.data.toList (posn Y k) (wdt Y k) (by rw [← HND.out]; exact hpm) (by omega)] at HC2
        have hl7 := comp_len s.data.toList Y k
        rw [Nat.add_sub_cancel_left] at HV
        have hlt3 := hlt
        rw [HC.out] at hlt3
        have hsz := r1.lt
        obtain ⟨⟨y, d0, d1, d2⟩, f0, f1, f2, RS⟩ := row_store r1 (k := k) (by omega) ⟨dec ((s.data.toList.drop (posn Y k)).take (wdt Y k)), wdt Y k, 0⟩
        have RO := row_other3 (k := k) r0 (show w.heap.size ≠ w.heap.size + 1 by omega) (.int .i64 (dec ((s.data.toList.drop (posn Y k)).take (wdt Y k)))) (.int .i64 (wdt Y k)) (.int .u8 0)
        have RB := below3 hb (w.heap.size + 1) k (by omega) (.int .i64 (dec ((s.data.toList.drop (posn Y k)).take (wdt Y k)))) (.int .i64 (wdt Y k)) (.int .u8 0)
        rw [← HC2.out] at RS
        simp only [] at RS
        by_cases hk0 : k = 0
        · have hp0 : Hid (posn Y k = 0) := by unfold Hid posn; rw [if_pos hk0]
          have hw0 : wdt Y k = Y := by unfold wdt; rw [if_pos hk0]
          replace hw0 := hw0.trans HY.out
          have hk1 : ¬ 0 < k := by omega
          replace hk0 := hide hk0
          clear HC2
          generalize posn Y k = i at *
          generalize wdt Y k = q at *
          subst hw0
          generalize dec ((s.data.toList.drop i).take _) = v at *
          replace RS := hide RS
          replace RO := hide RO
          replace RB := hide RB
          replace r0 := hide r0
          replace r1 := hide r1
          replace hwd := hide hwd
          replace hpm := hide hpm
          go_wp2_with (go_at_call 25; refine (HV.out _ _ (by have := hp0.out; omega) (by have := hp0.out; omega) _).mono ?_; rintro e w' ⟨rfl, rfl⟩)
          go_roundw
          case rel =>
            go_light
            exact ⟨k + 1, by omega, RO.out, RS.out, RB.out, by go_num⟩
          case measure => simp [intOf]; omega
        · have hp0 : Hid (posn Y k = Y + 2 * (k - 1)) := by unfold Hid posn; rw [if_neg hk0]
          have hw0 : wdt Y k = 2 := by unfold wdt; rw [if_neg hk0]
          have hk1 : 0 < k := by omega
          replace hk0 := hide hk0
          clear HC2
          generalize posn Y k = i at *
          generalize wdt Y k = q at *
          subst hw0
          generalize dec ((s.data.toList.drop i).take _) = v at *
          replace RS := hide RS
          replace RO := hide RO
          replace RB := hide RB
          replace r0 := hide r0
          replace r1 := hide r1
          replace hwd := hide hwd
          replace hpm := hide hpm
          go_wp2_with (go_at_call 25; refine (HV.out _ _ (by have := hp0.out; have := HY.out; omega) (by have := hp0.out; have := HY.out; omega) _).mono ?_; rintro e w' ⟨rfl, rfl⟩)
          go_roundw
          case rel =>
            go_light
            exact ⟨k + 1, by omega, RO.out, RS.out, RB.out, by go_num⟩
          case measure => simp [intOf]; omega
      · have hkC : k = C := by omega
        subst hkC
        clear hlt
        have hl7 := comp_len s.data.toList Y k
        have hsz := r1.lt
        have hge := Nat.le_of_eq HC.out.symm
        have z7 : Hid ((rowOf zero7).toArray.size = 21) := by unfold Hid; rfl
        by_cases hlt : N < s.size
        · have te := HT1.out hlt
          have HD := hide (fun (x : Int) (hx : x = (N + 1 : Nat)) w => by have := runField_any s (N + 1) w hs (by omega); rw [← hx] at this; exact this)
          simp only [Fld.arr] at HD
          have HF : Hid (R = ((comp s.data.toList Y k).set 6 (fld (s.data.toList.drop (N + 1))), decide (N + (1 + Num.nd (s.data.toList.drop (N + 1))) = s.size))) := by
            unfold Hid; rw [← HR.out]; unfold compFin; rw [if_pos (by rw [size_toList]; exact hlt), size_toList]
          have HW := hide (fld_w (s.data.toList.drop (N + 1)))
          have hnd := nd_le (s.data.toList.drop (N + 1))
          rw [List.length_drop, size_toList] at hnd
          generalize comp s.data.toList Y k = fs at *
          generalize Num.nd (s.data.toList.drop (N + 1)) = q at *
          generalize fld (s.data.toList.drop (N + 1)) = x at *
          have hqx : x.w ≤ s.size - (N + 1) := by rw [HW.out]; exact hnd
          replace r0 := hide r0
          replace r1 := hide r1
          go_wp2_with fail
          refine (HD.out _ (by have := HN.out; omega) _).mono ?_; rintro e w1 ⟨rfl, hb1⟩
          have q0 := r0.out.below hb1 r0.out.lt
          have q1 := r1.out.below hb1 r1.out.lt
          have hb2 := hide (hb.trans (hb1.mono (by omega)))
          have hsz1 := hide hb1.size
          clear hb1 hb
          obtain ⟨⟨y, d0, d1, d2⟩, f0, f1, f2, RS⟩ := row_store6 q1 hl7 x
          have RA := row_other6 q0 (g' := w.heap.size + 1) (by omega) x
          have RC := below6 hb2.out (w.heap.size + 1) (by omega) x
          have hone := rowOf_one (fs.set 6 x)
          have hfs : (rowOf (fs.set 6 x)).length = 21 := by rw [rowOf_len]; simp [hl7]
          have HS : Two w.heap.size (rowOf (fs.set 6 x)) (st6 w1 (w.heap.size + 1) x) := ⟨RS, rowOf zero7, rfl, RA⟩
          have hcell : ∀ z, Two w.heap.size (rowOf (fs.set 6 x)) z → z.cell? ⟨w.heap.size + 1, 19, none⟩ = some (.int .i64 x.w) := fun z hz => by
            rw [hz.1.cell 19]
            exact (rowOf_get (fs.set 6 x) 6 x (by simp [hl7])).2.1
          have hld := two_load w.heap.size (rowOf (fs.set 6 x)) hfs
          have hst := two_store w.heap.size (rowOf (fs.set 6 x)) hfs hone
          have hset : ∀ z, Two w.heap.size (rowOf (fs.set 6 x)) z → Two w.heap.size (rowOf (fs.set 6 x)) (z.setRow w.heap.size (rowOf (fs.set 6 x)).toArray) := fun z hz => hz.set hfs
          unfold st6 at HS RS RA RC
          replace RS := hide RS
          replace RA := hide RA
          replace RC := hide RC
          replace q0 := hide q0
          replace q1 := hide q1
          replace hfs := hide hfs
          replace hone := hide hone
          generalize hcs : rowOf (fs.set 6 x) = cs at *
          replace hcs := hide hcs
          go_wp2_with fail
          generalize (((w1.setCell ⟨w.heap.size + 1, 18, none⟩ (.int .i64 x.n)).setCell ⟨w.heap.size + 1, 19, none⟩ (.int .i64 x.w)).setCell ⟨w.heap.size + 1, 20, none⟩ (.int .u8 x.s)) = W at *
          clear d0 d1 d2 f0 f1 f2
          have hC0 := hcell W HS
          have HS1 := HS.drew
          clear HS
          refine wp_region_noPanic ?_
          refine wp_region_held_drew (S := fun z => Two w.heap.size cs z) (by kernel_rfl) HS1 (fun hHeld => ?_)
          refine wpAnyH_take (i := 1) (oi := _) (v := ?_) rfl (by kernel_rfl) (by kernel_rfl) (by kernel_rfl) (fun _ _ _ h => h) (Or.inl ⟨by rfl, ?_⟩) (by assumption) ?_
          rotate_left
          · intro w hSw; (try dsimp only at hSw); go_simp; try (with_reducible rfl)
          simp only [Act.put, List.getElem_toArray, List.getElem_cons_zero, List.getElem_cons_succ, List.setIfInBounds_toArray, List.set_cons_zero, List.set_cons_succ]
          refine wpAnyH_take (i := 2) (oi := _) (v := ?_) rfl (by kernel_rfl) (by kernel_rfl) (by kernel_rfl) (fun _ _ _ h => h) (Or.inl ⟨by rfl, ?_⟩) (by assumption) ?_
          rotate_left
          · intro w hSw; (try dsimp only at hSw); go_simp; try (with_reducible rfl)
          simp only [Act.put, List.getElem_toArray, List.getElem_cons_zero, List.getElem_cons_succ, List.setIfInBounds_toArray, List.set_cons_zero, List.set_cons_succ]
          refine wpAnyH_take (i := 3) (oi := _) (v := ?_) rfl (by kernel_rfl) (by kernel_rfl) (by kernel_rfl) (fun _ _ _ h => h) (Or.inl ⟨by rfl, ?_⟩) (by assumption) ?_
          rotate_left
          · intro w hSw; (try dsimp only at hSw); go_simp; try (with_reducible rfl)
          simp only [Act.put, List.getElem_toArray, List.getElem_cons_zero, List.getElem_cons_succ, List.setIfInBounds_toArray, List.set_cons_zero, List.set_cons_succ]
          refine wpAnyH_take (i := 4) (oi := _) (v := ?_) rfl (by kernel_rfl) (by kernel_rfl) (by kernel_rfl) (fun _ _ _ h => h) (Or.inl ⟨by rfl, ?_⟩) (by assumption) ?_
          rotate_left
          · intro w hSw; (try dsimp only at hSw); go_simp; try (with_reducible rfl)
          simp only [Act.put, List.getElem_toArray, List.getElem_cons_zero, List.getElem_cons_succ, List.setIfInBounds_toArray, List.set_cons_zero, List.set_cons_succ]
          refine wpAnyH_take (i := 5) (oi := _) (v := ?_) rfl (by kernel_rfl) (by kernel_rfl) (by kernel_rfl) (fun _ _ _ h => h) (Or.inl ⟨by rfl, ?_⟩) (by assumption) ?_
          rotate_left
          · intro w hSw; (try dsimp only at hSw); go_simp; try (with_reducible rfl)
          simp only [Act.put, List.getElem_toArray, List.getElem_cons_zero, List.getElem_cons_succ, List.setIfInBounds_toArray, List.set_cons_zero, List.set_cons_succ]
          refine wpAnyH_take (i := 6) (oi := _) (v := ?_) rfl (by kernel_rfl) (by kernel_rfl) (by kernel_rfl) (fun _ _ _ h => h) (Or.inl ⟨by rfl, ?_⟩) (by assumption) ?_
          rotate_left
          · intro w hSw; (try dsimp only at hSw); go_simp; try (with_reducible rfl)
          simp only [Act.put, List.getElem_toArray, List.getElem_cons_zero, List.getElem_cons_succ, List.setIfInBounds_toArray, List.set_cons_zero, List.set_cons_succ]
          refine wpAnyH_take (i := 7) (oi := _) (v := ?_) rfl (by kernel_rfl) (by kernel_rfl) (by kernel_rfl) (fun _ _ _ h => h) (Or.inl ⟨by rfl, ?_⟩) (by assumption) ?_
          rotate_left
          · intro w hSw; (try dsimp only at hSw); go_simp; try (with_reducible rfl)
          simp only [Act.put, List.getElem_toArray, List.getElem_cons_zero, List.getElem_cons_succ, List.setIfInBounds_toArray, List.set_cons_zero, List.set_cons_succ]
          refine wpAnyH_take (i := 8) (oi := _) (v := ?_) rfl (by kernel_rfl) (by kernel_rfl) (by kernel_rfl) (fun _ _ _ h => h) (Or.inl ⟨by rfl, ?_⟩) (by assumption) ?_
          rotate_left
          · intro w hSw; (try dsimp only at hSw); go_simp; try (with_reducible rfl)
          simp only [Act.put, List.getElem_toArray, List.getElem_cons_zero, List.getElem_cons_succ, List.setIfInBounds_toArray, List.set_cons_zero, List.set_cons_succ]
          refine wpAnyH_take (i := 9) (oi := _) (v := ?_) rfl (by kernel_rfl) (by kernel_rfl) (by kernel_rfl) (fun _ _ _ h => h) (Or.inl ⟨by rfl, ?_⟩) (by assumption) ?_
          rotate_left
          · intro w hSw; (try dsimp only at hSw); go_simp; try (with_reducible rfl)
          simp only [Act.put, List.getElem_toArray, List.getElem_cons_zero, List.getElem_cons_succ, List.setIfInBounds_toArray, List.set_cons_zero, List.set_cons_succ]
          refine wpAnyH_take (i := 0) (oi := _) (v := .agg cs.toArray) rfl (by kernel_rfl) (by kernel_rfl) (by kernel_rfl) (fun _ _ _ h => h) ?_ (by assumption) ?_
          · refine yieldsIf_load_mid ?_ 33 (.tmp 6) ?_ (w.heap.size + 1) 0 ?_ cs _ ?_ Try.underlying33 ?_ ?_
            · rfl
            · rfl
            · rfl
            · exact fun z hz => hz.range
            · rfl
            · rw [hfs.out]; kernel_rfl
          simp only [Act.put, List.getElem_toArray, List.getElem_cons_zero, List.getElem_cons_succ, List.setIfInBounds_toArray, List.set_cons_zero, List.set_cons_succ]
          refine wpAnyH_ready (rs := [10]) (by kernel_rfl) (by simp) ?_
          refine AllReadyH.cons (o := _) rfl (fun K hK => ?_) AllReadyH.nil
          rw [if_pos (by rfl)]
          refine wp_store_two _ _ rfl w.heap.size cs rfl rfl hfs.out hone.out hHeld ?_
          refine hK.out _ _ (hHeld.set hfs.out) (fun hHeld2 => ?_)
          clear hK K
          simp only [Act.put, List.getElem_toArray, List.getElem_cons_zero, List.getElem_cons_succ, List.setIfInBounds_toArray, List.set_cons_zero, List.set_cons_succ]
          refine wpAnyH_take (i := 11) (oi := _) (v := ?_) rfl (by kernel_rfl) (by kernel_rfl) (by kernel_rfl) (fun _ _ _ h => h) (Or.inl ⟨by rfl, ?_⟩) (by assumption) ?_
          rotate_left
          · intro w hSw; (try dsimp only at hSw); go_simp; try (with_reducible rfl)
          simp only [Act.put, List.getElem_toArray, List.getElem_cons_zero, List.getElem_cons_succ, List.setIfInBounds_toArray, List.set_cons_zero, List.set_cons_succ]
          refine wpAnyH_done (by kernel_rfl) ?_ _
          refine NoPanic.normal ?_
          go_wp2
          have hfz : cs.toArray.size = 21 := by simp [hfs.out]
          refine ret_row2 rfl w.heap.size 33 cs _ rfl ((RA.out.drew).setRow cs) Try.underlying33 rfl (by rw [hfz]; kernel_rfl) rfl ⟨?_, ?_⟩
          · rw [HF.out, ← HW.out, hcs.out]
            refine ret_pair rfl ?_
            show Value.bool (IntKind.i64.wrap (IntKind.i64.wrap _ + (x.w : Int)) == (s.size : Int)) = Value.bool (decide (N + (1 + x.w) = s.size))
            rw [wrap2 _ x.w (by omega) (by omega) (by omega)]
            rw [beq_nat (N + (1 + x.w)) s.size (by have := HN.out; omega) rfl]
          · exact below_setRow RC.out.drew w.heap.size (by omega) cs.toArray
        · have hNe : N = s.size := by omega
          have te := HT2.out hNe
          have HF : Hid (R = (comp s.data.toList Y k, decide (N = s.size))) := by
            unfold Hid; rw [← HR.out]; unfold compFin; rw [if_neg (by rw [size_toList]; exact hlt), size_toList]
          generalize comp s.data.toList Y k = fs at *
          have hfs := hide (size7 fs hl7)
          have hone := hide (rowOf_one fs)
          replace r0 := hide r0
          replace r1 := hide r1
          go_wp2_with (first | (refine wpList_load_row rfl 33 (.tmp 6) rfl (w.heap.size + 1) rfl 33 (rowOf fs).toArray (0, 0) _ ?_ Try.underlying33 rfl ?_ ?_) | (refine wpList_store_row rfl 33 (.tmp 4) _ rfl w.heap.size (rowOf fs).toArray rfl rfl 33 (rowOf zero7).toArray ?_ ?_ ?_ hone.out ?_))
          · exact r1.out
          · rw [hfs.out]; kernel_rfl
          · exact r0.out
          · rw [hfs.out]; kernel_rfl
          · rw [hfs.out]; exact z7.out
          refine ret_row2 rfl w.heap.size 33 (rowOf fs) _ rfl (r0.out.setRow _) Try.underlying33 rfl (by rw [hfs.out]; kernel_rfl) rfl ⟨?_, ?_⟩
          · rw [HF.out]
            refine ret_pair rfl ?_
            show Value.bool true = Value.bool (decide (N = s.size))
            rw [decide_eq_true hNe]
          · exact below_setRow hb _ (by omega) _

set_option maxRecDepth 100000 in
set_option maxHeartbeats 1000000 in
theorem cm_else (s : ByteArray) (n : Nat) (w : World) (h6 : n ≠ 6) (h12 : n ≠ 12) (h8 : n ≠ 8) (h14 : n ≠ 14) :
    Calls Try.prog 24 #[.string s, .int .i64 n] w fun e w' => e = .returned (.tuple #[.agg (rowOf zero7).toArray, .bool false]) ∧ Below w.heap.size w w' := by
  have t6 : ((n : Int) == 6) = false := beq_eq_false_iff_ne.2 (by omega)
  have t12 : ((n : Int) == 12) = false := beq_eq_false_iff_ne.2 (by omega)
  have t8 : ((n : Int) == 8) = false := beq_eq_false_iff_ne.2 (by omega)
  have t14 : ((n : Int) == 14) = false := beq_eq_false_iff_ne.2 (by omega)
  clear h6 h12 h8 h14
  have z1 := hide (rowOf_one zero7)
  go_enter Try.func24, Try.ntmps24
  go_wp2_with (first | (refine wpList_load_row rfl 33 (.tmp 6) rfl (w.heap.size + 1) rfl 33 (rowOf zero7).toArray (0, 0) _ ?_ Try.underlying33 rfl ?_ ?_) | (refine wpList_store_row rfl 33 (.tmp 4) _ rfl w.heap.size (rowOf zero7).toArray rfl rfl 33 (rowOf zero7).toArray ?_ ?_ ?_ z1.out ?_))
  · exact Row.new _ (rowOf zero7) 33 _ (by simp)
  · rw [z7size]; kernel_rfl
  · exact (Row.new w (rowOf zero7) 33 _ rfl).alloc _ (by simp)
  · rw [z7size]; kernel_rfl
  · rfl
  refine ret_row2 rfl w.heap.size 33 (rowOf zero7) _ rfl (((Row.new w (rowOf zero7) 33 _ rfl).alloc _ (by simp)).setRow _) Try.underlying33 rfl (by rw [z7size]; kernel_rfl) rfl ⟨rfl, ?_⟩
  exact below_setRow (((Below.refl _ _).alloc (by simp) _).alloc (by simp) _) _ (by omega) _

theorem cm_any (s : ByteArray) (w : World) (hs : s.size ≤ 1048576) :
    Calls Try.prog 24 #[.string s, .int .i64 (Num.nd s.data.toList : Nat)] w fun e w' => e = .returned (.tuple #[.agg (rowOf (compact s.data.toList (Num.nd s.data.toList)).1).toArray, .bool (compact s.data.toList (Num.nd s.data.toList)).2]) ∧ Below w.heap.size w w' := by
  have hn : Num.nd s.data.toList = Num.nd s.data.toList := rfl
  generalize hN : Num.nd s.data.toList = n at *
  by_cases h6 : n = 6
  · have := cm_four s n n 2 3 w hs hN.symm (.inl ⟨h6, rfl, rfl, by omega⟩)
    unfold compact
    rw [if_pos h6]
    exact this
  by_cases h12 : n = 12
  · have := cm_four s n n 2 6 w hs hN.symm (.inr (.inl ⟨h12, rfl, rfl, by omega⟩))
    unfold compact
    rw [if_neg h6, if_pos h12]
    exact this
  by_cases h8 : n = 8
  · have := cm_four s n n 4 3 w hs hN.symm (.inr (.inr (.inl ⟨h8, rfl, rfl, by omega⟩)))
    unfold compact
    rw [if_neg h6, if_neg h12, if_pos h8]
    exact this
  by_cases h14 : n = 14
  · have := cm_four s n n 4 6 w hs hN.symm (.inr (.inr (.inr ⟨h14, rfl, rfl, by omega⟩)))
    unfold compact
    rw [if_neg h6, if_neg h12, if_neg h8, if_pos h14]
    exact this
  · have := cm_else s n w h6 h12 h8 h14
    unfold compact
    rw [if_neg h6, if_neg h12, if_neg h8, if_neg h14]
    exact this
end Go.Proofs.Qxb6601586a.Dt
