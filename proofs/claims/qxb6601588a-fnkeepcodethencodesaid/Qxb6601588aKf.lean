/-
  WALK: FnKeepCodeThenCode: the dense column; all together.
-/
import Derived.Test.Qxb6601588aKe
namespace Go.Proofs.Qxb6601588a
open Go.RowKit
set_option linter.unusedVariables false
set_option linter.unusedSimpArgs false

def put (z : Nat → Int) (s : Nat) (c : Int) (j : Nat) : Int := if j = s then c else z j
theorem codeAt_same (z : Nat → Int) (n s : Nat) (c : Int) (h : s < n) : codeAt (put z s c) n s = c := by
  unfold codeAt put
  rw [if_pos h, if_pos rfl]
theorem codeAt_other (z : Nat → Int) (n s o : Nat) (c : Int) (h : o ≠ s) : codeAt (put z s c) n o = codeAt z n o := by
  unfold codeAt put
  rw [if_neg h]
theorem row_u8 {w : World} {g n : Nat} {z : Nat → Int} (r : Row w g ((List.range n).map fun j => .int .u8 (z j)) 5) : ∀ j, j < n → w.cell? ⟨g, j, none⟩ = some (.int .u8 (z j)) := fun j hj => by
  rw [r.cell j]; simp [hj]
theorem row_put {n s : Nat} {z : Nat → Int} {c : Int} (hs : s < n) : ((List.range n).map fun j => Value.int .u8 (z j)).set s (.int .u8 c) = (List.range n).map fun j => Value.int .u8 (put z s c j) := by
  apply List.ext_getElem?
  intro t
  by_cases ht : t < n
  · by_cases e : t = s
    · subst e
      rw [List.getElem?_set_self (by simp [ht])]
      simp [ht, put]
    · rw [List.getElem?_set_ne (fun e' => e e'.symm)]
      simp [ht, put, e]
  · rw [List.getElem?_eq_none (by simp; omega), List.getElem?_eq_none (by simp; omega)]

set_option maxRecDepth 100000 in
set_option maxHeartbeats 4000000 in
theorem law_dense_out {w : World} {a1 a2 a3 a4 a5 a6 : Option Addr} {n1 n2 n c1 c2 c3 c4 c5 c6 : Nat} {z1 z2 z3 : Nat → Int} {z4 : Nat → Nat} {z5 z6 : Nat → Int} (s c p o : Int) (hs : -2147483648 ≤ s ∧ s ≤ 2147483647)
    (hI : In w a1 a2 a3 a4 a5 a6 n1 n2 n n n n c1 c2 c3 c4 c5 c6 z1 z2 z3 z4 z5 z6) (hS : n1 + 8 * n2 + 8 * n + 8 * n + n + 8 * n ≤ 1048576) (hO : ¬ (0 ≤ s ∧ s < n1 ∧ s < n2 ∧ 0 ≤ o)) :
    Calls Try.prog 4 #[.bool false, .slice a1 n1 c1, .slice a2 n2 c2, .slice a3 n c3, .slice a4 n c4, .slice a5 n c5, .slice a6 n c6, .int .i32 s, .int .u8 c, .int .i32 p, .int .i32 o] w (Good w) := by
  obtain ⟨hs1, hs2⟩ := hs
  replace hO := hide hO
  replace hI := hide hI
  go_enter Try.func4, Try.ntmps4
  go_wp2_with fail
  refine (bytes_any _ _ _ _ _ a1 a2 a3 a4 a5 a6 n1 n2 n n n n c1 c2 c3 c4 c5 c6 _ hI.out.m1 hI.out.m2 hI.out.m3 hI.out.m4 hI.out.m5 hI.out.m6).mono ?_
  rintro e w' ⟨r, rfl, rfl, hr⟩
  cases r
  · clear hr
    go_wp2
    go_ret
    exact ⟨rfl, Below.refl _ _⟩
  · obtain ⟨q1, q2, q3, q4, q5, q6⟩ := hr rfl
    clear hr
    have t1 : decide (1048576 < (n1 : Int)) = false := decide_eq_false (by omega)
    have t2 : decide (1048576 < (n2 : Int)) = false := decide_eq_false (by omega)
    have t3 : decide (1048576 < (n : Int)) = false := decide_eq_false (by omega)
    have ts : decide (1048576 < (n1 : Int) + 8 * n2 + 8 * n + 8 * n + n + 8 * n) = false := decide_eq_false (by omega)
    by_cases k1 : s < 0
    · go_wp2
      go_ret
      exact ⟨rfl, Below.refl _ _⟩
    by_cases k2 : (n1 : Int) ≤ s
    · have u1 : decide (s < 0) = false := decide_eq_false k1
      have u2 : decide ((n1 : Int) ≤ s) = true := decide_eq_true k2
      go_wp2
      go_ret
      exact ⟨rfl, Below.refl _ _⟩
    by_cases k3 : (n2 : Int) ≤ s
    · have u1 : decide (s < 0) = false := decide_eq_false k1
      have u2 : decide ((n1 : Int) ≤ s) = false := decide_eq_false k2
      have u3 : decide ((n2 : Int) ≤ s) = true := decide_eq_true k3
      go_wp2
      go_ret
      exact ⟨rfl, Below.refl _ _⟩
    have k4 : o < 0 := by have := hO.out; omega
    have u1 : decide (s < 0) = false := decide_eq_false k1
    have u2 : decide ((n1 : Int) ≤ s) = false := decide_eq_false k2
    have u3 : decide ((n2 : Int) ≤ s) = false := decide_eq_false k3
    go_wp2
    go_ret
    exact ⟨rfl, Below.refl _ _⟩

set_option maxRecDepth 100000 in
set_option maxHeartbeats 4000000 in
theorem law_dense {w : World} {a1 a2 a3 a4 a5 a6 : Option Addr} {n1 n2 n c1 c2 c3 c4 c5 c6 : Nat} {z1 z2 z3 : Nat → Int} {z4 : Nat → Nat} {z5 z6 : Nat → Int} (s o : Nat) (c p : Int) (hom : o ≤ 2147483647) (h1 : s < n1) (h2 : s < n2)
    (hI : In w a1 a2 a3 a4 a5 a6 n1 n2 n n n n c1 c2 c3 c4 c5 c6 z1 z2 z3 z4 z5 z6) (hS : n1 + 8 * n2 + 8 * n + 8 * n + n + 8 * n ≤ 1048576) :
    Calls Try.prog 4 #[.bool false, .slice a1 n1 c1, .slice a2 n2 c2, .slice a3 n c3, .slice a4 n c4, .slice a5 n c5, .slice a6 n c6, .int .i32 s, .int .u8 c, .int .i32 p, .int .i32 o] w (Good w) := by
  have hsm : s ≤ 2147483647 := by omega
  have k2 : ¬ (n1 : Int) ≤ (s : Int) := by omega
  have k3 : ¬ (n2 : Int) ≤ (s : Int) := by omega
  replace hI := hide hI
  go_enter Try.func4, Try.ntmps4
  go_wp2_with fail
  refine (bytes_any _ _ _ _ _ a1 a2 a3 a4 a5 a6 n1 n2 n n n n c1 c2 c3 c4 c5 c6 _ hI.out.m1 hI.out.m2 hI.out.m3 hI.out.m4 hI.out.m5 hI.out.m6).mono ?_
  rintro e w' ⟨r, rfl, rfl, hr⟩
  cases r
  · clear hr
    go_wp2
    go_ret
    exact ⟨rfl, Below.refl _ _⟩
  · obtain ⟨q1, q2, q3, q4, q5, q6⟩ := hr rfl
    clear hr
    have t1 : decide (1048576 < (n1 : Int)) = false := decide_eq_false (by omega)
    have t2 : decide (1048576 < (n2 : Int)) = false := decide_eq_false (by omega)
    have t3 : decide (1048576 < (n : Int)) = false := decide_eq_false (by omega)
    have ts : decide (1048576 < (n1 : Int) + 8 * n2 + 8 * n + 8 * n + n + 8 * n) = false := decide_eq_false (by omega)
    have u2 : decide ((n1 : Int) ≤ (s : Int)) = false := decide_eq_false (by omega)
    have u3 : decide ((n2 : Int) ≤ (s : Int)) = false := decide_eq_false (by omega)
    clear k2 k3

    go_wp2_with fail
    refine (cu8_any z1 a1 n1 c1 hI.out.e1 q1 _ hI.out.h1).mono ?_; rintro e w1 ⟨b1, rfl, B1, R1⟩
    have S1 := hide B1
    have H2 := hI.out.h2.below S1.out
    clear B1
    go_wp2_with fail
    refine (ci32_any z2 a2 n2 c2 hI.out.e2 q2 _ H2).mono ?_; rintro e w2 ⟨b2, rfl, B2, R2⟩
    have S2 := hide (S1.out.trans (B2.mono S1.out.size))
    have H3 := hI.out.h3.below S2.out
    have T2 := hide B2
    clear B2 H2
    go_wp2_with fail
    refine (ci32_any z3 a3 n c3 hI.out.e3 q3 _ H3).mono ?_; rintro e w3 ⟨b3, rfl, B3, R3⟩
    have S3 := hide (S2.out.trans (B3.mono S2.out.size))
    have H4 := hI.out.h4.below S3.out
    have T3 := hide B3
    clear B3 H3
    go_wp2_with fail
    refine (cf64_any z4 a4 n c4 hI.out.e4 q3 _ H4).mono ?_; rintro e w4 ⟨b4, rfl, B4, R4⟩
    have S4 := hide (S3.out.trans (B4.mono S3.out.size))
    have H5 := hI.out.h5.below S4.out
    have T4 := hide B4
    clear B4 H4
    go_wp2_with fail
    refine (cu8_any z5 a5 n c5 hI.out.e5 q3 _ H5).mono ?_; rintro e w5 ⟨b5, rfl, B5, R5⟩
    have S5 := hide (S4.out.trans (B5.mono S4.out.size))
    have H6 := hI.out.h6.below S5.out
    have T5 := hide B5
    clear B5 H5
    go_wp2_with fail
    refine (ci32_any z6 a6 n c6 hI.out.e6 q3 _ H6).mono ?_; rintro e w6 ⟨b6, rfl, B6, R6⟩
    have S6 := hide (S5.out.trans (B6.mono S5.out.size))
    have T6 := hide B6
    clear B6 H6

    obtain ⟨gc, lc, rfl, Q1⟩ := R1 (by omega)
    obtain ⟨gp, lp, rfl, Q2⟩ := R2 (by omega)
    clear R1 R2 R3 R4 R5 R6
    have ltc := Q1.lt
    have ltp := Q2.lt
    have sz2 := hide T2.out.size
    have P1 := Q1.below T2.out Q1.lt
    have P1 := P1.below T3.out P1.lt
    have P1 := P1.below T4.out P1.lt
    have P1 := P1.below T5.out P1.lt
    have P1 := P1.below T6.out P1.lt
    have P2 := Q2.below T3.out Q2.lt
    have P2 := P2.below T4.out P2.lt
    have P2 := P2.below T5.out P2.lt
    have P2 := P2.below T6.out P2.lt
    have lt1 := P1.lt
    have lt2 := P2.lt
    have X1 := P1.alloc (.cells (colRow (.slice (some ⟨gc, 0, none⟩) n1 n1) (.slice (some ⟨gp, 0, none⟩) n2 n2) (.map none)).toArray 43) lt1
    have X2 := P2.alloc (.cells (colRow (.slice (some ⟨gc, 0, none⟩) n1 n1) (.slice (some ⟨gp, 0, none⟩) n2 n2) (.map none)).toArray 43) lt2
    have XC := Row.new w6 (colRow (.slice (some ⟨gc, 0, none⟩) n1 n1) (.slice (some ⟨gp, 0, none⟩) n2 n2) (.map none)) 43 _ rfl
    have S7 := hide (S6.out.alloc S6.out.size (.cells (colRow (.slice (some ⟨gc, 0, none⟩) n1 n1) (.slice (some ⟨gp, 0, none⟩) n2 n2) (.map none)).toArray 43))
    have HZ := hide (zzcode_dense w6.heap.size n1 gc o _ _ z1 q1 hom _ XC (fun _ => rfl) (row_u8 X1))
    have d0 := row_u8 X1 s h1
    have d1 : (w6.alloc (.cells (colRow (.slice (some ⟨gc, 0, none⟩) n1 n1) (.slice (some ⟨gp, 0, none⟩) n2 n2) (.map none)).toArray 43)).cell? ⟨gp, s, none⟩ = some (.int .i32 (z2 s)) := by rw [X2.cell s]; simp [h2]
    have HK := hide (zzkeep_dense w6.heap.size n1 n2 gc gp s _ _ c p _ q1 q2 h1 h2 (by omega) XC d0 d1 (X1.frozen s) (X2.frozen s) (by omega) (by omega))
    have Y1 := ((X1.setCell s (.int .u8 c)).setOther ⟨gp, s, none⟩ (.int .i32 p) (by show gc ≠ gp; omega)).drew
    rw [row_put h1] at Y1
    have YC := ((XC.setOther ⟨gc, s, none⟩ (.int .u8 c) (by show w6.heap.size ≠ gc; omega)).setOther ⟨gp, s, none⟩ (.int .i32 p) (by show w6.heap.size ≠ gp; omega)).drew
    have S8 := hide (((S7.out.setCell (p := ⟨gc, s, none⟩) lc (.int .u8 c)).setCell (p := ⟨gp, s, none⟩) (by have := S1.out.size; show _ ≤ gp; omega) (.int .i32 p)).drew)
    have HZ1 := hide (zzcode_dense w6.heap.size n1 gc s _ _ (put z1 s c) q1 hsm _ YC (fun _ => rfl) (row_u8 Y1))
    rw [codeAt_same z1 n1 s c h1] at HZ1
    have HZ2 := hide (zzcode_dense w6.heap.size n1 gc o _ _ (put z1 s c) q1 hom _ YC (fun _ => rfl) (row_u8 Y1))
    have HNW := hide (new_dense (some ⟨gc, 0, none⟩) (some ⟨gp, 0, none⟩) b3 b4 b5 b6 n1 n2 n n n n w6)
    clear Q1 Q2 P1 P2 X1 X2 XC d0 d1 Y1 YC
    go_wp2_with fail
    refine HNW.out.mono ?_; rintro e w7 ⟨rfl, hw7⟩
    rw [← hw7] at HZ HK HZ1 HZ2 S7 S8
    clear hw7
    go_wp2_with fail
    refine HZ.out.mono ?_; rintro e w8 ⟨rfl, rfl⟩
    go_wp2_with fail
    refine HK.out.mono ?_; rintro e w9 ⟨rfl, rfl⟩
    go_wp2_with fail
    refine HZ1.out.mono ?_; rintro e w10 ⟨rfl, rfl⟩
    have hcc : (c != c) = false := bne_self_eq_false _
    by_cases hos : o = s
    · subst hos
      have hoo : ((o : Int) != (o : Int)) = false := bne_self_eq_false _
      go_wp2
      go_ret
      exact ⟨rfl, S8.out⟩
    · have hoo : ((o : Int) != (s : Int)) = true := by simp only [bne_iff_ne, ne_eq]; omega
      rw [codeAt_other z1 n1 s o c hos] at HZ2
      have hff : (codeAt z1 n1 o != codeAt z1 n1 o) = false := bne_self_eq_false _
      replace hos := hide hos
      go_wp2_with (go_at_call 10; refine HZ2.out.mono ?_; rintro e w11 ⟨rfl, rfl⟩)
      go_ret
      exact ⟨rfl, S8.out⟩
end Go.Proofs.Qxb6601588a
