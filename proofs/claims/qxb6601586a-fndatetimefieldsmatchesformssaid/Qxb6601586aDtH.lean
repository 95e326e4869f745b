/-
  WALK: dateTimeFields, the delimited way.
-/
import Derived.Test.Qxb6601586aDtG
namespace Go.Proofs.Qxb6601586a.Dt
open Go.RowKit

theorem fin_len (fs : List Fld) (l : List UInt8) (h : fs.length = 7) : (fin fs l).1.length = 7 := by
  unfold fin
  split
  · exact h
  · split
    · simpa using h
    · exact h
theorem go_len : ∀ (m k : Nat) (fs : List Fld) (l : List UInt8), fs.length = 7 → (go m k fs l).1.length = 7
  | 0, _, fs, l, h => fin_len fs l h
  | m + 1, k, fs, l, h => by
    have hp : ∀ l, (part (go m (k + 1)) k fs l).1.length = 7 := by
      intro l
      unfold part
      split
      · simpa using h
      · exact go_len m (k + 1) _ _ (by simpa using h)
    simp only [go]
    split
    · exact hp _
    · split
      · exact h
      · split
        · exact hp _
        · exact h

/-! ### the plain function at a place of the string -/
theorem go_zero (s : ByteArray) (m : Nat) (fs : List Fld) (i : Nat) : go (m + 1) 0 fs (s.data.toList.drop i) = part (go m 1) 0 fs (s.data.toList.drop i) := rfl
theorem go_end (s : ByteArray) (m k : Nat) (fs : List Fld) (i : Nat) (hk : k ≠ 0) (h : s.size ≤ i) : go (m + 1) k fs (s.data.toList.drop i) = (fs, decide (3 ≤ k)) := by
  rw [drop_none s i h]; simp [go, hk]
theorem go_no (s : ByteArray) (m k : Nat) (fs : List Fld) (i : Nat) (hk : k ≠ 0) (h : i < s.size) (hd : delim s[i] k = false) : go (m + 1) k fs (s.data.toList.drop i) = (fs, false) := by
  rw [drop_cons s i h]; simp [go, hk, hd]
theorem go_yes (s : ByteArray) (m k : Nat) (fs : List Fld) (i : Nat) (hk : k ≠ 0) (h : i < s.size) (hd : delim s[i] k = true) : go (m + 1) k fs (s.data.toList.drop i) = part (go m (k + 1)) k fs (s.data.toList.drop (i + 1)) := by
  rw [drop_cons s i h]; simp [go, hk, hd]
theorem part_no (next : List Fld → List UInt8 → List Fld × Bool) (k : Nat) (fs : List Fld) (l : List UInt8) (x : Fld) (hx : fld l = x) (h : x.w = 0 ∨ wid k < x.w) : part next k fs l = (fs.set k x, false) := by
  subst hx
  rw [fld_w] at h
  unfold part
  rw [if_pos h]
theorem part_yes (next : List Fld → List UInt8 → List Fld × Bool) (k : Nat) (fs : List Fld) (s : ByteArray) (j : Nat) (x : Fld) (hx : fld (s.data.toList.drop j) = x) (h0 : x.w ≠ 0) (h : ¬ wid k < x.w) : part next k fs (s.data.toList.drop j) = next (fs.set k x) (s.data.toList.drop (j + x.w)) := by
  subst hx
  rw [fld_w] at h0 h ⊢
  unfold part
  rw [if_neg (by omega), List.drop_drop]
def wrow6 : List Value := wrow 4
theorem wrow6_get (k : Nat) (h : k < 6) : wrow6[k]? = some (.int .i64 (wid k)) := wrow_get 4 k h

/-- the world behind the store of part k, with the callee's blocks -/
def st3 (wr : World) (g k : Nat) (x : Fld) : World := ((((wr.setCell ⟨g, k * 3, none⟩ (.int .i64 x.n)).setCell ⟨g, k * 3 + 1, none⟩ (.int .i64 x.w)).setCell ⟨g, k * 3 + 2, none⟩ (.int .u8 x.s)).alloc (.cells #[.int .i64 x.n, .int .i64 x.w, .int .u8 x.s] 44)).alloc (.cells #[.int .i64 x.n, .int .i64 x.w, .int .u8 x.s] 44)

theorem Row.drewN {w : World} {g : Nat} {vs : List Value} {t : TypeId} (h : Row w g vs t) (n : Nat) : Row (w.drewN n) g vs t := h

set_option maxRecDepth 100000 in
set_option maxHeartbeats 8000000 in
theorem dtf_go (s : ByteArray) (w : World) (hs : s.size ≤ maxLen) (hlt : Num.nd s.data.toList < s.size)
    (h : Num.nd s.data.toList < 12 ∨ 12 ≤ Num.nd s.data.toList ∧ s[Num.nd s.data.toList].toNat ≠ 46) :
    Calls Try.prog 22 #[.string s] w fun e w' => e = .returned (.tuple #[.agg (rowOf (go 6 0 zero7 s.data.toList).1).toArray, .bool (go 6 0 zero7 s.data.toList).2]) ∧ Below w.heap.size w w' := by
  have hs' := hide hs
  unfold maxLen at hs
  have HD := hide (fun w => digitField_any s w hs'.out)
  simp only [Fld.arr] at HD
  have HW := hide (fld_w s.data.toList)
  generalize fld s.data.toList = x0 at *
  obtain ⟨R, HR⟩ : ∃ R, Hid (go 6 0 zero7 s.data.toList = R) := ⟨_, hide rfl⟩
  rw [HR.out]
  generalize Num.nd s.data.toList = q0 at *
  rw [HW.out] at HD
  have z7 := hide z7size
  have t1 : ((q0 : Int) == (s.size : Int)) = false := beq_eq_false_iff_ne.2 (by omega)
  rcases h with h12 | ⟨h12, h46⟩
  case' inr =>
    have t2 : ((s[q0].toNat : Int) == 46) = false := beq_eq_false_iff_ne.2 (by omega)
    clear h46
  all_goals
    go_enter Try.func22, Try.ntmps22
    go_wp2_with fail
    refine (HD.out _).mono ?_; rintro e w' ⟨rfl, rfl⟩
    clear HD
    go_wp2_with fail
    clear t1
    go_loopw [7, 35] (fun v7 v35 wr => ∃ (k i : Nat) (fs : List Fld), k ≤ 6 ∧ i ≤ s.size ∧ fs.length = 7 ∧ go (6 - k) k fs (s.data.toList.drop i) = R ∧ Row wr w.heap.size (rowOf zero7) 45 ∧ Row wr (w.heap.size + 1) (rowOf fs) 45 ∧ Row wr (w.heap.size + 5) wrow6 60 ∧ Below w.heap.size w wr ∧ v7 = .int .i64 i ∧ v35 = .int .i64 k) (fun _ v35 _ => 6 - (intOf v35).toNat)
    case atStart =>
      go_light
      exact ⟨0, 0, zero7, by omega, by omega, rfl, HR.out, (W5_r0 w x0.n q0 x0.s).alloc _ (by rw [W5_size]; omega), (W5_r1 w x0.n q0 x0.s).alloc _ (by rw [W5_size]; omega), Row.new (W5 w x0.n q0 x0.s) wrow6 60 _ (by rw [W5_size]), (W5_below w x0.n q0 x0.s).alloc (by rw [W5_size]; omega) _, rfl, rfl⟩
    case round =>
      obtain ⟨k, i, fs, hk, hi, hf7, H1, r0, r1, r2, hb, rfl, rfl⟩ := hrel
      clear HR HW
      replace H1 := hide H1
      have hsz := r2.lt
      have hsz1 : w.heap.size + 1 < wr.heap.size := by omega
      have hsz0 : w.heap.size < wr.heap.size := by omega
      have hsz4 : w.heap.size + 4 < wr.heap.size := by omega
      by_cases hk6 : k < 6
      · by_cases hk0 : k = 0
        · have t0 : ¬ 0 < k := by omega
          have t0' : ¬ (0 : Int) < (k : Int) := by omega
          have HG : Hid (R = part (go (5 - k) (k + 1)) k fs (s.data.toList.drop i)) := by
            have := H1.out
            subst hk0
            exact this.symm
          clear hk0 H1
          have HD := hide (fun w => digitField_any (s.extract (i) s.size) w (extract_le s _ _ hs'.out))
          rw [extract_drop] at HD
          simp only [Fld.arr] at HD
          have hxw : (fld (s.data.toList.drop (i))).w ≤ s.size - (i) := by
            rw [fld_w]
            have := nd_le (s.data.toList.drop (i))
            rw [show (s.data.toList.drop (i)).length = s.size - (i) from by simp] at this
            exact this
          obtain ⟨x, HX⟩ : ∃ x, Hid (fld (s.data.toList.drop (i)) = x) := ⟨_, hide rfl⟩
          rw [HX.out] at HD hxw
          obtain ⟨⟨y, d0, d1, d2⟩, f0, f1, f2, RS⟩ := row_store r1 (k := k) (by omega) x
          have cw := (r2.cell k).trans (wrow6_get k hk6)
          have RA := row_two RS x
          have RB := row_two (row_other3 (k := k) r0 (show w.heap.size ≠ w.heap.size + 1 by omega) (.int .i64 x.n) (.int .i64 x.w) (.int .u8 x.s)) x
          have RD := row_two (row_other3 (k := k) r2 (show w.heap.size + 5 ≠ w.heap.size + 1 by omega) (.int .i64 x.n) (.int .i64 x.w) (.int .u8 x.s)) x
          have RC := below_two (below3 hb (w.heap.size + 1) k (by omega) (.int .i64 x.n) (.int .i64 x.w) (.int .u8 x.s)) (by rw [size3]; omega) x
          unfold xblk at RA RB RC RD
          clear RS
          replace RA := hide RA
          replace RB := hide RB
          replace RC := hide RC
          replace RD := hide RD
          replace r0 := hide r0
          replace r1 := hide r1
          replace r2 := hide r2
          have hki : (k : Int) < 6 := by omega
          have hki7 : (k : Int) < 7 := by omega
          go_wp2_with fail
          refine (HD.out _).mono ?_; rintro e w' ⟨rfl, rfl⟩
          clear HD
          by_cases hw0 : x.w = 0
          · have t5 : ((x.w : Int) == 0) = true := beq_iff_eq.2 (by omega)
            have HF : Hid (R = (fs.set k x, false)) := by unfold Hid; rw [HG.out]; exact part_no _ _ _ _ x HX.out (.inl hw0)
            clear hw0
            go_wp2
            go_quiet (fail)
            have hfs2 : Hid ((rowOf (fs.set k x)).toArray.size = 21) := size7 (fs.set k x) (by simpa using hf7)
            have hone2 := hide (rowOf_one (fs.set k x))
            go_wp2_with (first | (refine wpList_load_row rfl 45 (.tmp 4) rfl (w.heap.size + 1) rfl 45 (rowOf (fs.set k x)).toArray (0, 0) _ ?_ Try.underlying45 rfl ?_ ?_) | (refine wpList_store_row rfl 45 (.tmp 2) _ rfl w.heap.size (rowOf (fs.set k x)).toArray rfl rfl 45 (rowOf zero7).toArray ?_ ?_ ?_ hone2.out ?_))
            · exact RA.out.drewN _
            · rw [hfs2.out]; kernel_rfl
            · exact RB.out.drewN _
            · rw [hfs2.out]; kernel_rfl
            · rw [hfs2.out]; exact z7.out
            refine ret_row2 rfl w.heap.size 45 (rowOf (fs.set k x)) _ rfl (Row.setRow (RB.out.drewN _) _) Try.underlying45 rfl (by rw [hfs2.out]; kernel_rfl) rfl ⟨?_, below_setRow (below_drewN RC.out _) w.heap.size (by omega) _⟩
            rw [HF.out]
            exact ret_pair rfl rfl

          · have t5 : ((x.w : Int) == 0) = false := beq_eq_false_iff_ne.2 (by omega)
            by_cases hw1 : wid k < x.w
            · have t6 : (wid k : Int) < (x.w : Int) := by omega
              have HF : Hid (R = (fs.set k x, false)) := by unfold Hid; rw [HG.out]; exact part_no _ _ _ _ x HX.out (.inr hw1)
              go_wp2
              go_quiet (fail)
              have hfs2 : Hid ((rowOf (fs.set k x)).toArray.size = 21) := size7 (fs.set k x) (by simpa using hf7)
              have hone2 := hide (rowOf_one (fs.set k x))
              go_wp2_with (first | (refine wpList_load_row rfl 45 (.tmp 4) rfl (w.heap.size + 1) rfl 45 (rowOf (fs.set k x)).toArray (0, 0) _ ?_ Try.underlying45 rfl ?_ ?_) | (refine wpList_store_row rfl 45 (.tmp 2) _ rfl w.heap.size (rowOf (fs.set k x)).toArray rfl rfl 45 (rowOf zero7).toArray ?_ ?_ ?_ hone2.out ?_))
              · exact RA.out.drewN _
              · rw [hfs2.out]; kernel_rfl
              · exact RB.out.drewN _
              · rw [hfs2.out]; kernel_rfl
              · rw [hfs2.out]; exact z7.out
              refine ret_row2 rfl w.heap.size 45 (rowOf (fs.set k x)) _ rfl (Row.setRow (RB.out.drewN _) _) Try.underlying45 rfl (by rw [hfs2.out]; kernel_rfl) rfl ⟨?_, below_setRow (below_drewN RC.out _) w.heap.size (by omega) _⟩
              rw [HF.out]
              exact ret_pair rfl rfl

            · have t6 : decide ((wid k : Int) < (x.w : Int)) = false := decide_eq_false (by omega)
              have HF : Hid (R = go (5 - k) (k + 1) (fs.set k x) (s.data.toList.drop (i + x.w))) := by unfold Hid; rw [HG.out]; exact part_yes _ _ _ s (i) x HX.out hw0 hw1
              clear hw0
              go_wp2
              go_quiet (fail)
              go_wp2
              go_roundw
              case rel =>
                go_light
                exact ⟨k + 1, i + x.w, fs.set k x, by omega, by omega, by simpa using hf7, by rw [show 6 - (k + 1) = 5 - k from by omega]; exact HF.out.symm, RB.out.drewN _, RA.out.drewN _, RD.out.drewN _, below_drewN RC.out _, by go_num, by go_num⟩
              case measure => simp [intOf]; omega

        · have t0 : (0 : Int) < (k : Int) := by omega

          have H2 := H1.out
          rw [show 6 - k = (5 - k) + 1 from by omega] at H2
          replace H2 := hide H2
          by_cases hie : i = s.size
          · have t1 : ((i : Int) == (s.size : Int)) = true := beq_iff_eq.2 (by omega)
            by_cases hk3 : 3 ≤ k
            · have t2 : (3 : Int) ≤ (k : Int) := by omega
              have HF : Hid (R = (fs, true)) := by unfold Hid; rw [← H2.out, go_end s _ k fs i hk0 (by omega)]; simp [hk3]
              clear H1 H2 hie hk0
              replace r0 := hide r0
              replace r1 := hide r1
              replace r2 := hide r2
              have hfs2 : Hid ((rowOf (fs)).toArray.size = 21) := size7 (fs) (by simpa using hf7)
              have hone2 := hide (rowOf_one (fs))
              go_wp2_with (first | (refine wpList_load_row rfl 45 (.tmp 4) rfl (w.heap.size + 1) rfl 45 (rowOf (fs)).toArray (0, 0) _ ?_ Try.underlying45 rfl ?_ ?_) | (refine wpList_store_row rfl 45 (.tmp 2) _ rfl w.heap.size (rowOf (fs)).toArray rfl rfl 45 (rowOf zero7).toArray ?_ ?_ ?_ hone2.out ?_))
              · exact r1.out
              · rw [hfs2.out]; kernel_rfl
              · exact r0.out
              · rw [hfs2.out]; kernel_rfl
              · rw [hfs2.out]; exact z7.out
              refine ret_row2 rfl w.heap.size 45 (rowOf (fs)) _ rfl (Row.setRow (r0.out) _) Try.underlying45 rfl (by rw [hfs2.out]; kernel_rfl) rfl ⟨?_, below_setRow (hb) w.heap.size (by omega) _⟩
              rw [HF.out]
              exact ret_pair rfl rfl

            · have t2 : decide ((3 : Int) ≤ (k : Int)) = false := decide_eq_false (by omega)
              have HF : Hid (R = (fs, false)) := by unfold Hid; rw [← H2.out, go_end s _ k fs i hk0 (by omega)]; simp [hk3]
              clear H1 H2 hie hk0
              replace r0 := hide r0
              replace r1 := hide r1
              replace r2 := hide r2
              have hfs2 : Hid ((rowOf (fs)).toArray.size = 21) := size7 (fs) (by simpa using hf7)
              have hone2 := hide (rowOf_one (fs))
              go_wp2_with (first | (refine wpList_load_row rfl 45 (.tmp 4) rfl (w.heap.size + 1) rfl 45 (rowOf (fs)).toArray (0, 0) _ ?_ Try.underlying45 rfl ?_ ?_) | (refine wpList_store_row rfl 45 (.tmp 2) _ rfl w.heap.size (rowOf (fs)).toArray rfl rfl 45 (rowOf zero7).toArray ?_ ?_ ?_ hone2.out ?_))
              · exact r1.out
              · rw [hfs2.out]; kernel_rfl
              · exact r0.out
              · rw [hfs2.out]; kernel_rfl
              · rw [hfs2.out]; exact z7.out
              refine ret_row2 rfl w.heap.size 45 (rowOf (fs)) _ rfl (Row.setRow (r0.out) _) Try.underlying45 rfl (by rw [hfs2.out]; kernel_rfl) rfl ⟨?_, below_setRow (hb) w.heap.size (by omega) _⟩
              rw [HF.out]
              exact ret_pair rfl rfl

          · have hil : i < s.size := by omega
            have t1 : ((i : Int) == (s.size : Int)) = false := beq_eq_false_iff_ne.2 (by omega)
            cases hdl : delim s[i] k
            · have HF : Hid (R = (fs, false)) := by unfold Hid; rw [← H2.out, go_no s _ k fs i hk0 hil hdl]
              clear H1 H2 hie hk0
              replace r0 := hide r0
              replace r1 := hide r1
              replace r2 := hide r2
              go_wp2_with fail
              refine (delim_any _ _ _).mono ?_; rintro e w' ⟨rfl, rfl⟩
              have hfs2 : Hid ((rowOf (fs)).toArray.size = 21) := size7 (fs) (by simpa using hf7)
              have hone2 := hide (rowOf_one (fs))
              go_wp2_with (first | (refine wpList_load_row rfl 45 (.tmp 4) rfl (w.heap.size + 1) rfl 45 (rowOf (fs)).toArray (0, 0) _ ?_ Try.underlying45 rfl ?_ ?_) | (refine wpList_store_row rfl 45 (.tmp 2) _ rfl w.heap.size (rowOf (fs)).toArray rfl rfl 45 (rowOf zero7).toArray ?_ ?_ ?_ hone2.out ?_))
              · exact r1.out
              · rw [hfs2.out]; kernel_rfl
              · exact r0.out
              · rw [hfs2.out]; kernel_rfl
              · rw [hfs2.out]; exact z7.out
              refine ret_row2 rfl w.heap.size 45 (rowOf (fs)) _ rfl (Row.setRow (r0.out) _) Try.underlying45 rfl (by rw [hfs2.out]; kernel_rfl) rfl ⟨?_, below_setRow (hb) w.heap.size (by omega) _⟩
              rw [HF.out]
              exact ret_pair rfl rfl

            · have HG : Hid (R = part (go (5 - k) (k + 1)) k fs (s.data.toList.drop (i + 1))) := by
                unfold Hid; rw [← H2.out, go_yes s _ k fs i hk0 hil hdl]
              clear H1 H2 hie hk0
              have HD := hide (fun w => digitField_any (s.extract (i + 1) s.size) w (extract_le s _ _ hs'.out))
              rw [extract_drop] at HD
              simp only [Fld.arr] at HD
              have hxw : (fld (s.data.toList.drop (i + 1))).w ≤ s.size - (i + 1) := by
                rw [fld_w]
                have := nd_le (s.data.toList.drop (i + 1))
                rw [show (s.data.toList.drop (i + 1)).length = s.size - (i + 1) from by simp] at this
                exact this
              obtain ⟨x, HX⟩ : ∃ x, Hid (fld (s.data.toList.drop (i + 1)) = x) := ⟨_, hide rfl⟩
              rw [HX.out] at HD hxw
              obtain ⟨⟨y, d0, d1, d2⟩, f0, f1, f2, RS⟩ := row_store r1 (k := k) (by omega) x
              have cw := (r2.cell k).trans (wrow6_get k hk6)
              have RA := row_two RS x
              have RB := row_two (row_other3 (k := k) r0 (show w.heap.size ≠ w.heap.size + 1 by omega) (.int .i64 x.n) (.int .i64 x.w) (.int .u8 x.s)) x
              have RD := row_two (row_other3 (k := k) r2 (show w.heap.size + 5 ≠ w.heap.size + 1 by omega) (.int .i64 x.n) (.int .i64 x.w) (.int .u8 x.s)) x
              have RC := below_two (below3 hb (w.heap.size + 1) k (by omega) (.int .i64 x.n) (.int .i64 x.w) (.int .u8 x.s)) (by rw [size3]; omega) x
              unfold xblk at RA RB RC RD
              clear RS
              replace RA := hide RA
              replace RB := hide RB
              replace RC := hide RC
              replace RD := hide RD
              replace r0 := hide r0
              replace r1 := hide r1
              replace r2 := hide r2
              have hki : (k : Int) < 6 := by omega
              have hki7 : (k : Int) < 7 := by omega
              go_wp2_with (go_at_call 31; refine (delim_any _ _ _).mono ?_; rintro e w' ⟨rfl, rfl⟩)
              refine (HD.out _).mono ?_; rintro e w' ⟨rfl, rfl⟩
              clear HD
              by_cases hw0 : x.w = 0
              · have t5 : ((x.w : Int) == 0) = true := beq_iff_eq.2 (by omega)
                have HF : Hid (R = (fs.set k x, false)) := by unfold Hid; rw [HG.out]; exact part_no _ _ _ _ x HX.out (.inl hw0)
                clear hw0
                go_wp2
                go_quiet (fail)
                have hfs2 : Hid ((rowOf (fs.set k x)).toArray.size = 21) := size7 (fs.set k x) (by simpa using hf7)
                have hone2 := hide (rowOf_one (fs.set k x))
                go_wp2_with (first | (refine wpList_load_row rfl 45 (.tmp 4) rfl (w.heap.size + 1) rfl 45 (rowOf (fs.set k x)).toArray (0, 0) _ ?_ Try.underlying45 rfl ?_ ?_) | (refine wpList_store_row rfl 45 (.tmp 2) _ rfl w.heap.size (rowOf (fs.set k x)).toArray rfl rfl 45 (rowOf zero7).toArray ?_ ?_ ?_ hone2.out ?_))
                · exact RA.out.drewN _
                · rw [hfs2.out]; kernel_rfl
                · exact RB.out.drewN _
                · rw [hfs2.out]; kernel_rfl
                · rw [hfs2.out]; exact z7.out
                refine ret_row2 rfl w.heap.size 45 (rowOf (fs.set k x)) _ rfl (Row.setRow (RB.out.drewN _) _) Try.underlying45 rfl (by rw [hfs2.out]; kernel_rfl) rfl ⟨?_, below_setRow (below_drewN RC.out _) w.heap.size (by omega) _⟩
                rw [HF.out]
                exact ret_pair rfl rfl

              · have t5 : ((x.w : Int) == 0) = false := beq_eq_false_iff_ne.2 (by omega)
                by_cases hw1 : wid k < x.w
                · have t6 : (wid k : Int) < (x.w : Int) := by omega
                  have HF : Hid (R = (fs.set k x, false)) := by unfold Hid; rw [HG.out]; exact part_no _ _ _ _ x HX.out (.inr hw1)
                  go_wp2
                  go_quiet (fail)
                  have hfs2 : Hid ((rowOf (fs.set k x)).toArray.size = 21) := size7 (fs.set k x) (by simpa using hf7)
                  have hone2 := hide (rowOf_one (fs.set k x))
                  go_wp2_with (first | (refine wpList_load_row rfl 45 (.tmp 4) rfl (w.heap.size + 1) rfl 45 (rowOf (fs.set k x)).toArray (0, 0) _ ?_ Try.underlying45 rfl ?_ ?_) | (refine wpList_store_row rfl 45 (.tmp 2) _ rfl w.heap.size (rowOf (fs.set k x)).toArray rfl rfl 45 (rowOf zero7).toArray ?_ ?_ ?_ hone2.out ?_))
                  · exact RA.out.drewN _
                  · rw [hfs2.out]; kernel_rfl
                  · exact RB.out.drewN _
                  · rw [hfs2.out]; kernel_rfl
                  · rw [hfs2.out]; exact z7.out
                  refine ret_row2 rfl w.heap.size 45 (rowOf (fs.set k x)) _ rfl (Row.setRow (RB.out.drewN _) _) Try.underlying45 rfl (by rw [hfs2.out]; kernel_rfl) rfl ⟨?_, below_setRow (below_drewN RC.out _) w.heap.size (by omega) _⟩
                  rw [HF.out]
                  exact ret_pair rfl rfl

                · have t6 : decide ((wid k : Int) < (x.w : Int)) = false := decide_eq_false (by omega)
                  have HF : Hid (R = go (5 - k) (k + 1) (fs.set k x) (s.data.toList.drop (i + 1 + x.w))) := by unfold Hid; rw [HG.out]; exact part_yes _ _ _ s (i + 1) x HX.out hw0 hw1
                  clear hw0
                  go_wp2
                  go_quiet (fail)
                  go_wp2
                  go_roundw
                  case rel =>
                    go_light
                    exact ⟨k + 1, i + 1 + x.w, fs.set k x, by omega, by omega, by simpa using hf7, by rw [show 6 - (k + 1) = 5 - k from by omega]; exact HF.out.symm, RB.out.drewN _, RA.out.drewN _, RD.out.drewN _, below_drewN RC.out _, by go_num, by go_num⟩
                  case measure => simp [intOf]; omega

      · have H2 : Hid (fin fs (s.data.toList.drop i) = R) := by
          have := H1.out
          rw [show k = 6 from by omega] at this
          exact this
        clear H1
        by_cases hie : i = s.size
        · have t1 : ((i : Int) == (s.size : Int)) = true := beq_iff_eq.2 (by omega)
          have t2 : ¬ i < s.size := by omega
          have HF : Hid (R = (fs, true)) := by unfold Hid; rw [← H2.out, drop_none s i (by omega)]; rfl
          clear H2 hie
          replace r0 := hide r0
          replace r1 := hide r1
          replace r2 := hide r2
          have hfs2 : Hid ((rowOf (fs)).toArray.size = 21) := size7 (fs) (by simpa using hf7)
          have hone2 := hide (rowOf_one (fs))
          go_wp2_with (first | (refine wpList_load_row rfl 45 (.tmp 4) rfl (w.heap.size + 1) rfl 45 (rowOf (fs)).toArray (0, 0) _ ?_ Try.underlying45 rfl ?_ ?_) | (refine wpList_store_row rfl 45 (.tmp 2) _ rfl w.heap.size (rowOf (fs)).toArray rfl rfl 45 (rowOf zero7).toArray ?_ ?_ ?_ hone2.out ?_))
          · exact r1.out
          · rw [hfs2.out]; kernel_rfl
          · exact r0.out
          · rw [hfs2.out]; kernel_rfl
          · rw [hfs2.out]; exact z7.out
          refine ret_row2 rfl w.heap.size 45 (rowOf (fs)) _ rfl (Row.setRow (r0.out) _) Try.underlying45 rfl (by rw [hfs2.out]; kernel_rfl) rfl ⟨?_, below_setRow (hb) w.heap.size (by omega) _⟩
          rw [HF.out]
          exact ret_pair rfl rfl

        · have hil : i < s.size := by omega
          by_cases h46 : s[i].toNat = 46
          · have t3 : ((s[i].toNat : Int) == 46) = true := beq_iff_eq.2 (by omega)
            have HD := hide (fun w => digitField_any (s.extract (i + 1) s.size) w (extract_le s _ _ hs'.out))
            rw [extract_drop] at HD
            simp only [Fld.arr] at HD
            have HW2 := hide (fld_w (s.data.toList.drop (i + 1)))
            have hnd := nd_le (s.data.toList.drop (i + 1))
            rw [show (s.data.toList.drop (i + 1)).length = s.size - (i + 1) from by simp, ← HW2.out] at hnd
            have HF : Hid (R = (fs.set 6 (fld (s.data.toList.drop (i + 1))), decide (i + (1 + (fld (s.data.toList.drop (i + 1))).w) = s.size))) := by
              unfold Hid
              rw [← H2.out, drop_cons s i hil]
              simp only [fin, h46, if_true]
              rw [HW2.out, show (s.data.toList.drop (i + 1)).length = s.size - (i + 1) from by simp]
              refine Prod.ext rfl ?_
              simp only
              rw [Bool.eq_iff_iff, decide_eq_true_iff, decide_eq_true_iff]
              omega
            clear HW2 h46 H2 hie
            generalize fld (s.data.toList.drop (i + 1)) = x at *
            obtain ⟨⟨y, d0, d1, d2⟩, f0, f1, f2, RS⟩ := row_store6 r1 hf7 x
            have RA := row_two RS x
            have RB := row_two (row_other6 r0 (g' := w.heap.size + 1) (by omega) x) x
            have RC := below_two (below6 hb (w.heap.size + 1) (by omega) x) (by rw [st6_size]; omega) x
            unfold st6 xblk at RA RB RC
            clear RS
            replace RA := hide RA
            replace RB := hide RB
            replace RC := hide RC
            replace r0 := hide r0
            replace r1 := hide r1
            replace r2 := hide r2
            go_wp2_with fail
            refine (HD.out _).mono ?_; rintro e w' ⟨rfl, rfl⟩
            clear HD
            have hfs2 : Hid ((rowOf (fs.set 6 x)).toArray.size = 21) := size7 (fs.set 6 x) (by simpa using hf7)
            have hone2 := hide (rowOf_one (fs.set 6 x))
            go_wp2_with (first | (refine wpList_load_row rfl 45 (.tmp 4) rfl (w.heap.size + 1) rfl 45 (rowOf (fs.set 6 x)).toArray (0, 0) _ ?_ Try.underlying45 rfl ?_ ?_) | (refine wpList_store_row rfl 45 (.tmp 2) _ rfl w.heap.size (rowOf (fs.set 6 x)).toArray rfl rfl 45 (rowOf zero7).toArray ?_ ?_ ?_ hone2.out ?_))
            · exact RA.out
            · rw [hfs2.out]; kernel_rfl
            · exact RB.out
            · rw [hfs2.out]; kernel_rfl
            · rw [hfs2.out]; exact z7.out
            refine ret_row2 rfl w.heap.size 45 (rowOf (fs.set 6 x)) _ rfl (Row.setRow (RB.out) _) Try.underlying45 rfl (by rw [hfs2.out]; kernel_rfl) rfl ⟨?_, below_setRow (RC.out) w.heap.size (by omega) _⟩
            rw [HF.out]
            refine ret_pair rfl ?_
            show Value.bool ((i : Int) + (1 + (x.w : Int)) == (s.size : Int)) = Value.bool (decide (i + (1 + x.w) = s.size))
            rw [beq_nat (i + (1 + x.w)) s.size (by omega) rfl]

          · have t3 : ((s[i].toNat : Int) == 46) = false := beq_eq_false_iff_ne.2 (by omega)
            have t1 : ((i : Int) == (s.size : Int)) = false := beq_eq_false_iff_ne.2 (by omega)
            have HF : Hid (R = (fs, false)) := by unfold Hid; rw [← H2.out, drop_cons s i hil]; simp [fin, h46]
            clear H2 hie h46
            replace r0 := hide r0
            replace r1 := hide r1
            replace r2 := hide r2
            have hfs2 : Hid ((rowOf (fs)).toArray.size = 21) := size7 (fs) (by simpa using hf7)
            have hone2 := hide (rowOf_one (fs))
            go_wp2_with (first | (refine wpList_load_row rfl 45 (.tmp 4) rfl (w.heap.size + 1) rfl 45 (rowOf (fs)).toArray (0, 0) _ ?_ Try.underlying45 rfl ?_ ?_) | (refine wpList_store_row rfl 45 (.tmp 2) _ rfl w.heap.size (rowOf (fs)).toArray rfl rfl 45 (rowOf zero7).toArray ?_ ?_ ?_ hone2.out ?_))
            · exact r1.out
            · rw [hfs2.out]; kernel_rfl
            · exact r0.out
            · rw [hfs2.out]; kernel_rfl
            · rw [hfs2.out]; exact z7.out
            refine ret_row2 rfl w.heap.size 45 (rowOf (fs)) _ rfl (Row.setRow (r0.out) _) Try.underlying45 rfl (by rw [hfs2.out]; kernel_rfl) rfl ⟨?_, below_setRow (hb) w.heap.size (by omega) _⟩
            rw [HF.out]
            exact ret_pair rfl rfl

theorem dtf_any (s : ByteArray) (w : World) (hs : s.size ≤ maxLen) :
    Calls Try.prog 22 #[.string s] w fun e w' => e = .returned (.tuple #[.agg (rowOf (dtf s.data.toList).1).toArray, .bool (dtf s.data.toList).2]) ∧ Below w.heap.size w w' := by
  have hle : Num.nd s.data.toList ≤ s.size := by have := nd_le s.data.toList; simpa using this
  have hlen : s.data.toList.length = s.size := by simp
  by_cases h1 : Num.nd s.data.toList = s.size
  · unfold dtf
    rw [if_pos (.inl (by omega))]
    exact dtf_compact s w hs (.inl h1)
  · have hlt : Num.nd s.data.toList < s.size := by omega
    have hh : (s.data.toList.drop (Num.nd s.data.toList)).head? = some s[Num.nd s.data.toList] := by rw [drop_cons s _ hlt]; rfl
    by_cases h2 : 12 ≤ Num.nd s.data.toList ∧ s[Num.nd s.data.toList].toNat = 46
    · unfold dtf
      rw [if_pos (.inr ⟨h2.1, by rw [hh, ← UInt8.toNat_inj.1 (show s[Num.nd s.data.toList].toNat = (46 : UInt8).toNat from h2.2)]⟩)]
      exact dtf_compact s w hs (.inr ⟨hlt, h2.1, h2.2⟩)
    · unfold dtf
      rw [if_neg (by
        rintro (h | ⟨h3, h4⟩)
        · omega
        · rw [hh, Option.some.injEq] at h4
          exact h2 ⟨h3, by rw [h4]; rfl⟩)]
      exact dtf_go s w hs hlt (by omega)
end Go.Proofs.Qxb6601586a.Dt
