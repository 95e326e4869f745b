/-
  WALK: FnKeepCodeThenCode: the sparse column.
-/
import Derived.Test.Qxb6601588aKd
namespace Go.Proofs.Qxb6601588a
open Go.RowKit
set_option linter.unusedVariables false
set_option linter.unusedSimpArgs false

theorem hasKey_zero (a : Option Addr) (k : Int) (cap : Nat) (w : World) :
    Calls Try.prog 12 #[.slice a 0 cap, .int .i32 k] w fun e w' => e = .returned (.bool false) ∧ w' = w := by
  go_enter Try.func12, Try.ntmps12
  go_wp2
  go_loop [5] (fun v5 => v5 = .int .i64 0) (fun _ => 0)
  case atStart => rfl
  case round =>
    subst hrel
    go_wp2
    go_ret
    exact ⟨rfl, rfl⟩
theorem Cells.below {w w' : World} {a : Option Addr} {n : Nat} {c : Nat → Value} (h : Cells w a n c) (hb : Below w.heap.size w w') : Cells w' a n c := by
  rcases h with h | ⟨x, hx, hc⟩
  · exact .inl h
  · refine .inr ⟨x, hx, fun i hi => ?_⟩
    have h1 := hc i hi
    rw [hb.cell (block_lt_of_cell h1)]
    exact h1
theorem owns_below {w w' : World} {b n : Nat} {D : DataW Unit} (h : w.ownsMap Try.prog 21 Rc b n D) (hb : Below w.heap.size w w') : w'.ownsMap Try.prog 21 Rc b n D := by
  have hlt := h.lt
  obtain ⟨es, clock, h1, h2, h3, h4⟩ := h
  exact ⟨es, clock, (hb.block b hlt).trans h1, h2, h3, h4⟩
/-- what came in -/
structure In (w : World) (a1 a2 a3 a4 a5 a6 : Option Addr) (n1 n2 n3 n4 n5 n6 c1 c2 c3 c4 c5 c6 : Nat) (z1 z2 z3 : Nat → Int) (z4 : Nat → Nat) (z5 z6 : Nat → Int) : Prop where
  h1 : Cells w a1 n1 (fun j => .int .u8 (z1 j))
  h2 : Cells w a2 n2 (fun j => .int .i32 (z2 j))
  h3 : Cells w a3 n3 (fun j => .int .i32 (z3 j))
  h4 : Cells w a4 n4 (fun j => .float .f64 (z4 j))
  h5 : Cells w a5 n5 (fun j => .int .u8 (z5 j))
  h6 : Cells w a6 n6 (fun j => .int .i32 (z6 j))
  e1 : a1 = none → c1 = 0
  e2 : a2 = none → c2 = 0
  e3 : a3 = none → c3 = 0
  e4 : a4 = none → c4 = 0
  e5 : a5 = none → c5 = 0
  e6 : a6 = none → c6 = 0
  m1 : n1 ≤ 9223372036854775807
  m2 : n2 ≤ 9223372036854775807
  m3 : n3 ≤ 9223372036854775807
  m4 : n4 ≤ 9223372036854775807
  m5 : n5 ≤ 9223372036854775807
  m6 : n6 ≤ 9223372036854775807
  k3 : ∀ j, j < n3 → (Lit.int .i32 (z3 j)).wf = true
def Good (w : World) (e : Ending) (w' : World) : Prop := e = .returned (.bool true) ∧ Below w.heap.size w w'

/-- the lengths' sum is too great, or the keys' slices differ in length -/
theorem law_early {w : World} {a1 a2 a3 a4 a5 a6 : Option Addr} {n1 n2 n3 n4 n5 n6 c1 c2 c3 c4 c5 c6 : Nat} {z1 z2 z3 : Nat → Int} {z4 : Nat → Nat} {z5 z6 : Nat → Int} (b : Bool) (s c p o : Int)
    (hI : In w a1 a2 a3 a4 a5 a6 n1 n2 n3 n4 n5 n6 c1 c2 c3 c4 c5 c6 z1 z2 z3 z4 z5 z6) (hE : ¬ (n1 + 8 * n2 + 8 * n3 + 8 * n4 + n5 + 8 * n6 ≤ 1048576 ∧ n4 = n3 ∧ n5 = n3 ∧ n6 = n3)) :
    Calls Try.prog 4 #[.bool b, .slice a1 n1 c1, .slice a2 n2 c2, .slice a3 n3 c3, .slice a4 n4 c4, .slice a5 n5 c5, .slice a6 n6 c6, .int .i32 s, .int .u8 c, .int .i32 p, .int .i32 o] w (Good w) := by
  obtain ⟨m1, m2, m3, m4, m5, m6⟩ : n1 ≤ 9223372036854775807 ∧ n2 ≤ 9223372036854775807 ∧ n3 ≤ 9223372036854775807 ∧ n4 ≤ 9223372036854775807 ∧ n5 ≤ 9223372036854775807 ∧ n6 ≤ 9223372036854775807 := ⟨hI.m1, hI.m2, hI.m3, hI.m4, hI.m5, hI.m6⟩
  clear hI
  replace hE := hide hE
  go_enter Try.func4, Try.ntmps4
  go_wp2_with fail
  refine (bytes_any _ _ _ _ _ a1 a2 a3 a4 a5 a6 n1 n2 n3 n4 n5 n6 c1 c2 c3 c4 c5 c6 _ m1 m2 m3 m4 m5 m6).mono ?_
  rintro e w' ⟨r, rfl, rfl, hr⟩
  cases r
  · clear hr
    go_wp2
    go_ret
    exact ⟨rfl, Below.refl _ _⟩
  · obtain ⟨q1, q2, q3, q4, q5, q6⟩ := hr rfl
    clear hr
    have t1 : decide (1048576 < (n1 : Int)) = false := decide_eq_false (by omega)
    have t2 : decide (1048576 < (n2 : Int)) = false := decide_eq_false (by omega)
    have t3 : decide (1048576 < (n3 : Int)) = false := decide_eq_false (by omega)
    have t4 : decide (1048576 < (n4 : Int)) = false := decide_eq_false (by omega)
    have t5 : decide (1048576 < (n5 : Int)) = false := decide_eq_false (by omega)
    have t6 : decide (1048576 < (n6 : Int)) = false := decide_eq_false (by omega)
    by_cases hsum : n1 + 8 * n2 + 8 * n3 + 8 * n4 + n5 + 8 * n6 ≤ 1048576
    · have ts : decide (1048576 < (n1 : Int) + 8 * n2 + 8 * n3 + 8 * n4 + n5 + 8 * n6) = false := decide_eq_false (by omega)
      by_cases g4 : n4 = n3
      · by_cases g5 : n5 = n3
        · have u6 : ((n6 : Int) != (n3 : Int)) = true := by have := hE.out; simp only [bne_iff_ne, ne_eq]; omega
          subst g4
          subst g5
          go_wp2
          go_ret
          exact ⟨rfl, Below.refl _ _⟩
        · have u5 : ((n5 : Int) != (n3 : Int)) = true := by simp only [bne_iff_ne, ne_eq]; omega
          subst g4
          clear g5
          go_wp2
          go_ret
          exact ⟨rfl, Below.refl _ _⟩
      · have u4 : ((n4 : Int) != (n3 : Int)) = true := by simp only [bne_iff_ne, ne_eq]; omega
        clear g4
        go_wp2
        go_ret
        exact ⟨rfl, Below.refl _ _⟩
    · have ts : decide (1048576 < (n1 : Int) + 8 * n2 + 8 * n3 + 8 * n4 + n5 + 8 * n6) = true := decide_eq_true (by omega)
      clear hsum
      go_wp2
      go_ret
      exact ⟨rfl, Below.refl _ _⟩
/-! ### sparse -/
set_option maxRecDepth 100000 in
set_option maxHeartbeats 4000000 in
theorem law_sparse {w : World} {a1 a2 a3 a4 a5 a6 : Option Addr} {n1 n2 n c1 c2 c3 c4 c5 c6 : Nat} {z1 z2 z3 : Nat → Int} {z4 : Nat → Nat} {z5 z6 : Nat → Int} (s c p o : Int) (hs : (Lit.int .i32 s).wf = true) (ho : (Lit.int .i32 o).wf = true)
    (hI : In w a1 a2 a3 a4 a5 a6 n1 n2 n n n n c1 c2 c3 c4 c5 c6 z1 z2 z3 z4 z5 z6) (hS : n1 + 8 * n2 + 8 * n + 8 * n + n + 8 * n ≤ 1048576) :
    Calls Try.prog 4 #[.bool true, .slice a1 n1 c1, .slice a2 n2 c2, .slice a3 n c3, .slice a4 n c4, .slice a5 n c5, .slice a6 n c6, .int .i32 s, .int .u8 c, .int .i32 p, .int .i32 o] w (Good w) := by
  replace hI := hide hI
  go_enter Try.func4, Try.ntmps4
  go_wp2_with fail
  refine (bytes_any _ _ _ _ _ a1 a2 a3 a4 a5 a6 n1 n2 n n n n c1 c2 c3 c4 c5 c6 _ hI.out.m1 hI.out.m2 hI.out.m3 hI.out.m4 hI.out.m5 hI.out.m6).mono ?_
  rintro e w' ⟨r, rfl, rfl, hr⟩
  cases r
  · clear hr
    go_wp2
    go_ret
    exact ⟨rfl, Below.refl _ _⟩
  · obtain ⟨q1, q2, q3, q4, q5, q6⟩ := hr rfl
    clear hr
    have t1 : decide (1048576 < (n1 : Int)) = false := decide_eq_false (by omega)
    have t2 : decide (1048576 < (n2 : Int)) = false := decide_eq_false (by omega)
    have t3 : decide (1048576 < (n : Int)) = false := decide_eq_false (by omega)
    have ts : decide (1048576 < (n1 : Int) + 8 * n2 + 8 * n + 8 * n + n + 8 * n) = false := decide_eq_false (by omega)
    by_cases h0 : n = 0
    · subst h0
      go_wp2_with (go_at_call 12; refine (hasKey_zero a3 s c3 _).mono ?_; rintro e w' ⟨rfl, rfl⟩)
      go_ret
      exact ⟨rfl, Below.refl _ _⟩
    have hn0 : Hid (0 < n) := by unfold Hid; omega
    clear h0
    go_wp2_with fail
    refine (hasKey_any z3 s a3 n c3 q3 _ hI.out.h3).mono ?_; rintro e w' ⟨⟨r, rfl⟩, rfl⟩
    cases r
    · go_wp2
      go_ret
      exact ⟨rfl, Below.refl _ _⟩

    go_wp2_with fail
    refine (cu8_any z1 a1 n1 c1 hI.out.e1 q1 _ hI.out.h1).mono ?_; rintro e w1 ⟨b1, rfl, B1, R1⟩
    have S1 := hide B1
    have H2 := hI.out.h2.below S1.out
    clear B1
    go_wp2_with fail
    refine (ci32_any z2 a2 n2 c2 hI.out.e2 q2 _ H2).mono ?_; rintro e w2 ⟨b2, rfl, B2, R2⟩
    have S2 := hide (S1.out.trans (B2.mono S1.out.size))
    have H3 := hI.out.h3.below S2.out
    have T2 := hide B2
    clear B2 H2
    go_wp2_with fail
    refine (ci32_any z3 a3 n c3 hI.out.e3 q3 _ H3).mono ?_; rintro e w3 ⟨b3, rfl, B3, R3⟩
    have S3 := hide (S2.out.trans (B3.mono S2.out.size))
    have H4 := hI.out.h4.below S3.out
    have T3 := hide B3
    clear B3 H3
    go_wp2_with fail
    refine (cf64_any z4 a4 n c4 hI.out.e4 q3 _ H4).mono ?_; rintro e w4 ⟨b4, rfl, B4, R4⟩
    have S4 := hide (S3.out.trans (B4.mono S3.out.size))
    have H5 := hI.out.h5.below S4.out
    have T4 := hide B4
    clear B4 H4
    go_wp2_with fail
    refine (cu8_any z5 a5 n c5 hI.out.e5 q3 _ H5).mono ?_; rintro e w5 ⟨b5, rfl, B5, R5⟩
    have S5 := hide (S4.out.trans (B5.mono S4.out.size))
    have H6 := hI.out.h6.below S5.out
    have T5 := hide B5
    clear B5 H5
    go_wp2_with fail
    refine (ci32_any z6 a6 n c6 hI.out.e6 q3 _ H6).mono ?_; rintro e w6 ⟨b6, rfl, B6, R6⟩
    have S6 := hide (S5.out.trans (B6.mono S5.out.size))
    have T6 := hide B6
    clear B6 H6

    obtain ⟨g3, l3, rfl, Q3⟩ := R3 hn0.out
    obtain ⟨g4, l4, rfl, Q4⟩ := R4 hn0.out
    obtain ⟨g5, l5, rfl, Q5⟩ := R5 hn0.out
    obtain ⟨g6, l6, rfl, Q6⟩ := R6 hn0.out
    clear R1 R2 R3 R4 R5 R6
    have P5 := Q5.below T6.out Q5.lt
    have P4 := Q4.below T5.out Q4.lt
    have O4 := P4.below T6.out P4.lt
    have P3 := Q3.below T4.out Q3.lt
    have O3 := P3.below T5.out P3.lt
    have N3 := O3.below T6.out O3.lt
    have HNW := hide (new_sparse b1 b2 n1 n2 n g3 g4 g5 g6 z3 z4 z5 z6 q3 w6 hI.out.k3 N3 O4 P5 Q6)
    clear Q3 Q4 Q5 Q6 P5 P4 O4 P3 O3 N3
    go_wp2_with fail
    refine HNW.out.mono ?_; rintro e w7 ⟨rfl, ⟨D, M7⟩, C7, B7⟩
    have S7 := hide (S6.out.trans (B7.mono S6.out.size))
    have HZ := hide (zzcode_sparse w6.heap.size (w6.heap.size + 1) n _ _ D o ho w7 C7 M7)
    clear HNW B7
    replace M7 := hide M7
    replace C7 := hide C7
    have hsz := hide S6.out.size
    go_wp2_with fail
    refine HZ.out.mono ?_; rintro e w8 ⟨rfl, B8⟩
    have M8 := owns_below M7.out B8
    have C8 := C7.out.below B8 C7.out.lt
    have S8 := hide (S7.out.trans (B8.mono S7.out.size))
    have HK := hide (zzkeep_sparse w6.heap.size (w6.heap.size + 1) n _ _ D s c p hs w8 q3 C8 M8 (by omega))
    have HD := hide M8.isMap
    clear HZ B8 M7 C7 M8 C8
    go_wp2_with fail
    refine HK.out.mono ?_; rintro e w9 ⟨rfl, C9, M9, B9⟩
    have S9 := hide (S8.out.trans (B9 _ hsz.out (by have := hsz.out; omega)))
    have HZ := hide (zzcode_sparse w6.heap.size (w6.heap.size + 1) (n + 1) _ _ _ s hs w9 C9 M9)
    rw [code_put_same HD.out] at HZ
    replace M9 := hide M9
    replace C9 := hide C9
    clear HK B9
    go_wp2_with fail
    refine HZ.out.mono ?_; rintro e w10 ⟨rfl, B10⟩
    have M10 := owns_below M9.out B10
    have C10 := C9.out.below B10 C9.out.lt
    have S10 := hide (S9.out.trans (B10.mono S9.out.size))
    have HO := hide (fun h => code_put_other (D := D) s o c h)
    have HZ2 := hide (zzcode_sparse w6.heap.size (w6.heap.size + 1) (n + 1) _ _ _ o ho w10 C10 M10)
    clear HZ B10 M9 C9 M10 C10
    have hcc : (c != c) = false := bne_self_eq_false _
    by_cases hos : o = s
    · subst hos
      have hoo : (o != o) = false := bne_self_eq_false _
      go_wp2
      go_ret
      exact ⟨rfl, S10.out⟩
    · have hoo : (o != s) = true := by simp only [bne_iff_ne, ne_eq]; exact hos
      rw [HO.out hos] at HZ2
      have hff : (codeOf D o != codeOf D o) = false := bne_self_eq_false _
      clear hos
      go_wp2_with (go_at_call 10; refine HZ2.out.mono ?_; rintro e w11 ⟨rfl, B11⟩; have S11 := hide (S10.out.trans (B11.mono S10.out.size)); clear B11)
      go_ret
      exact ⟨rfl, S11.out⟩
end Go.Proofs.Qxb6601588a
