/-
  WALK: FnDateTimeFieldsMatchesForms.
-/
import Derived.Test.Qxb6601586aDtY
import Derived.Test.Qxb6601586aDtZ
namespace Go.Proofs.Qxb6601586a.Dt
open Go.RowKit
set_option linter.unusedVariables false
set_option linter.unusedSimpArgs false

theorem dm_any (s : ByteArray) (w : World) (hs : s.size ≤ 1048576) : Calls Try.prog 16 #[.string s] w (ModelPost s.data.toList w) := by
  obtain ⟨m, HM⟩ := cuts_exists s.data.toList
  by_cases hC : m = 1 ∨ (12 ≤ Num.nd s.data.toList ∧ (s.data.toList.drop (Num.nd s.data.toList)).head? = some 46)
  · exact dm_compact s m w hs HM hC
  · by_cases hm : m < 3 ∨ 7 < m
    · exact dm_short s m w hs HM hC hm
    · have h3 : 3 ≤ m := by omega
      have h7 : m ≤ 7 := by omega
      obtain ⟨c, hc, hr⟩ := rest_cons s.data.toList 0 (HM.lt 0 (by omega))
      by_cases h46 : c.toNat = 46
      · exact dm_go_dot s m w hs HM hC h3 h7 (fun c' h => by rw [hc] at h; simp at h; rw [← h]; exact h46)
      · exact dm_go_no s m w hs HM hC h3 h7 (fun c' h => by rw [hc] at h; simp at h; rw [← h]; exact h46)

theorem by_ok (s : ByteArray) (w : World) (hs : s.size ≤ 1048576) : Calls Try.prog 14 #[.string s] w fun e w' => e = .returned (.bool true) ∧ w' = w := by
  go_enter Try.func14, Try.ntmps14
  go_wp2
  go_ret
  exact ⟨rfl, rfl⟩
theorem by_no (s : ByteArray) (w : World) (hs : 1048576 < s.size) : Calls Try.prog 14 #[.string s] w fun e w' => e = .returned (.bool false) ∧ w' = w := by
  go_enter Try.func14, Try.ntmps14
  go_wp2
  go_ret
  exact ⟨rfl, rfl⟩
theorem law_long (s : ByteArray) (w : World) (hs : 1048576 < s.size) : Calls Try.prog 6 #[.string s] w fun e w' => e = .returned (.bool true) ∧ w' = w := by
  go_enter Try.func6, Try.ntmps6
  go_wp2_with (go_at_call 14; refine (by_no s _ hs).mono ?_; rintro e w' ⟨rfl, rfl⟩)
  go_ret
  exact ⟨rfl, rfl⟩

theorem row_al2 {W : World} {g : Nat} {vs : List Value} {t : TypeId} (r : Row W g vs t) (a b : Obj) : Row ((W.alloc a).alloc b) g vs t :=
  (r.alloc _ r.lt).alloc _ (by rw [World.size_alloc]; have := r.lt; omega)
theorem below_al2 {B : Nat} {w W : World} (h : Below B w W) (hB : B ≤ W.heap.size) (a b : Obj) : Below B w ((W.alloc a).alloc b) :=
  (h.alloc hB _).alloc (by rw [World.size_alloc]; omega) _

set_option maxRecDepth 100000 in
set_option maxHeartbeats 4000000 in
theorem law_in (s : ByteArray) (w : World) (hs : s.size ≤ 1048576) : Calls Try.prog 6 #[.string s] w fun e w' => e = .returned (.bool true) ∧ Below w.heap.size w w' := by
  have hsm : s.size ≤ maxLen := by unfold maxLen; omega
  have HA := hide (fun w => zzdtf_any s w hsm)
  have HB := hide (fun w => dm_any s w hs)
  have hl7 := dtf_len s.data.toList
  replace hsm := hide hsm
  unfold ModelPost at HB
  generalize dtf s.data.toList = R at *
  have hfs := hide (size7 R.1 hl7)
  have hone := hide (rowOf_one R.1)
  have z7 := hide z7size
  go_enter Try.func6, Try.ntmps6
  go_wp2_with (go_at_call 14; refine (by_ok s _ hs).mono ?_; rintro e w' ⟨rfl, rfl⟩)
  refine (HA.out _).mono ?_; rintro e w1 ⟨rfl, hb1⟩
  replace hb1 := hide hb1
  go_wp2_with (refine wpList_store_row rfl 28 (.tmp 3) _ rfl w1.heap.size (rowOf R.1).toArray rfl rfl 28 (rowOf zero7).toArray ?_ ?_ ?_ hone.out ?_)
  · exact Row.new w1 (rowOf zero7) 28 _ rfl
  · rw [hfs.out]; kernel_rfl
  · rw [hfs.out]; exact z7.out
  have r1 := hide ((Row.new w1 (rowOf zero7) 28 _ rfl).setRow (rowOf R.1))
  have hb2 := hide (below_setRow (hb1.out.alloc hb1.out.size (.cells (rowOf zero7).toArray 28)) w1.heap.size hb1.out.size (rowOf R.1).toArray)
  refine (HB.out _).mono ?_
  rintro e w2 ⟨fs, ok, fixed, rfl, hf7, hok, hfx, hb3⟩
  subst hok
  have q1 := hide (r1.out.below hb3 r1.out.lt)
  have hb4 := hide (hb2.out.trans (hb3.mono hb2.out.size))
  have hw12 : w1.heap.size < w2.heap.size := q1.out.lt
  have hw01 := hb1.out.size
  clear hb3 hb1 hb2 r1 HA HB
  have gfs := hide (size7 fs hf7)
  have gone := hide (rowOf_one fs)
  have hne : (R.2 != R.2) = false := bne_self_eq_false _
  cases fixed
  · clear hfx
    go_wp2_with (refine wpList_store_row rfl 33 (.tmp 5) _ rfl w2.heap.size (rowOf fs).toArray rfl rfl 33 (rowOf zero7).toArray ?_ ?_ ?_ gone.out ?_)
    · exact Row.new w2 (rowOf zero7) 33 _ rfl
    · rw [gfs.out]; kernel_rfl
    · rw [gfs.out]; exact z7.out
    go_ret
    exact ⟨rfl, below_setRow (hb4.out.alloc (by omega) _) w2.heap.size (by omega) _⟩
  · obtain rfl : fs = R.1 := hfx rfl
    clear hfx
    go_wp2_with (refine wpList_store_row rfl 33 (.tmp 5) _ rfl w2.heap.size (rowOf R.1).toArray rfl rfl 33 (rowOf zero7).toArray ?_ ?_ ?_ gone.out ?_)
    · exact Row.new w2 (rowOf zero7) 33 _ rfl
    · rw [gfs.out]; kernel_rfl
    · rw [gfs.out]; exact z7.out
    go_loopw [8] (fun v8 wr => ∃ k : Nat, k ≤ 7 ∧ Row wr w1.heap.size (rowOf R.1) 28 ∧ Row wr w2.heap.size (rowOf R.1) 33 ∧ Below w'.heap.size w' wr ∧ v8 = .int .i64 k) (fun v8 _ => 7 - (intOf v8).toNat)
    case atStart =>
      exact ⟨0, by omega, (q1.out.alloc _ hw12).setRowOther _ _ (by omega), (Row.new w2 (rowOf zero7) 33 _ rfl).setRow _, below_setRow (hb4.out.alloc (by omega) _) w2.heap.size (by omega) _, rfl⟩
    case round =>
      obtain ⟨k, hk, ra, rb, hb, rfl⟩ := hrel
      have hwr := rb.lt
      by_cases hlt : k < 7
      · obtain ⟨x, hx⟩ : ∃ x, R.1[k]? = some x := ⟨R.1[k]'(by omega), by simp⟩
        have hget := rowOf_get R.1 k x hx
        have g0 := (ra.cell (k * 3)).trans hget.1
        have g1 := (ra.cell (k * 3 + 1)).trans hget.2.1
        have g2 := (ra.cell (k * 3 + 2)).trans hget.2.2
        have h0 := (rb.cell (k * 3)).trans hget.1
        have h1 := (rb.cell (k * 3 + 1)).trans hget.2.1
        have h2 := (rb.cell (k * 3 + 2)).trans hget.2.2
        replace hget := hide hget
        replace hx := hide hx
        replace ra := hide ra
        replace rb := hide rb
        replace hb := hide hb
        have hki7 : (k : Int) < 7 := by omega
        have hki0 : (0 : Int) ≤ (k : Int) := by omega
        go_wp2_with fail
        go_region_held3 (fun z => z.cell? ⟨w1.heap.size, k * 3, none⟩ = some (.int .i64 x.n) ∧ z.cell? ⟨w1.heap.size, k * 3 + 1, none⟩ = some (.int .i64 x.w) ∧ z.cell? ⟨w1.heap.size, k * 3 + 2, none⟩ = some (.int .u8 x.s) ∧ z.cell? ⟨w2.heap.size, k * 3, none⟩ = some (.int .i64 x.n) ∧ z.cell? ⟨w2.heap.size, k * 3 + 1, none⟩ = some (.int .i64 x.w) ∧ z.cell? ⟨w2.heap.size, k * 3 + 2, none⟩ = some (.int .u8 x.s)) (simp (disch := ((try simp only [World.size_alloc]); omega)) only [World.cell?_drew, World.cell?_alloc_past, g0, g1, g2, h0, h1, h2, and_self]) (first | (go_at_call 17; refine (zzSame_eq _ _ _ _).mono ?_; rintro e w' ⟨rfl, rfl⟩))
        go_wp2
        go_roundw
        case rel =>
          go_light
          exact ⟨k + 1, by omega, row_al2 ra.out _ _, row_al2 rb.out _ _, (below_al2 hb.out (by omega) _ _).drew, by go_num⟩
        case measure => simp [intOf]; omega
      · replace ra := hide ra
        replace rb := hide rb
        replace hb := hide hb
        have tk : decide ((k : Int) < 7) = false := decide_eq_false (by omega)
        go_wp2
        go_ret
        exact ⟨rfl, hb.out⟩

theorem law_walk (s : ByteArray) (hs : s.size ≤ maxLen) (w : World) : Calls Try.prog 6 #[.string s] w fun e w' => e = .returned (.bool true) ∧ Below w.heap.size w w' := by
  by_cases h : s.size ≤ 1048576
  · exact law_in s w h
  · exact (law_long s w (by omega)).mono fun e w' ⟨h1, h2⟩ => ⟨h1, h2 ▸ Below.refl _ _⟩
end Go.Proofs.Qxb6601586a.Dt
