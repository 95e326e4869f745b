/-
  FnKeepCodeThenCode: the row's step (after the shell that the guide lays for laws over slices; the slice of floats is opened by hand).
-/
import Derived.Test.Qxb6601588aRows
import Derived.WalkKit
import Derived.ProofKit
import Derived.OpenShut
import Derived.ShutString
import Derived.ChangeOld
import Derived.Below
import Derived.Laws.Rows
import Derived.Deep.Slices
import Derived.Test.Qxb6601588aKf
namespace Go.Proofs.Qxb6601588a.fnKeepCodeThenCode
open Go.ChangeShapes Go.WideShapes Go.ChangeAt Go.RowKit
open Go.ChangeMaps (open_string shut_string)
set_option linter.unusedVariables false

theorem own : ownKnob Try.prog.godebug = none := by kernel_rfl
theorem laidOut : laidOutB Try.prog = true := by kernel_rfl

/-! ### what the walk is told of the slices -/
theorem cells_ints {H : Type} {enc : TypeId × Value → H} {W : World} {t e : TypeId} {k : IntKind} {a : Option Addr} {len cap : Nat} {d : DataW H} {ps : List MemPlace} (ht : Try.prog.underlying t = some (.slice e)) (he : Try.prog.underlying e = some (.int k)) (hc : Try.prog.cellsOf e = 1)
    (h : DataW.Trod enc Try.prog W 0 (fun _ => true) true t (.slice a len cap) d ps) :
    ∃ z : Nat → Int, Cells W a len (fun j => .int k (z j)) ∧ (a = none → cap = 0) ∧ len ≤ 9223372036854775807 ∧ ∀ j, j < len → (Lit.int k (z j)).wf = true := by
  obtain ⟨fuel, hf⟩ := h
  rcases open_ints ht he hc hf with ⟨hcs, _⟩ | ⟨x, l, c, zs, hcs, _, hl, hm, hz, _, hcell, hwz⟩
  · simp [Value.cells] at hcs
    obtain ⟨rfl, rfl, rfl⟩ := hcs
    exact ⟨fun _ => 0, .inl ⟨rfl, rfl⟩, fun _ => rfl, by omega, fun j hj => by omega⟩
  · simp [Value.cells] at hcs
    obtain ⟨rfl, rfl, rfl⟩ := hcs
    have hz' : zs.length = cap := by simpa using hz
    have e : maxLen = 9223372036854775807 := by decide
    refine ⟨fun j => zs.getD j 0, .inr ⟨x, rfl, fun i hi => hcell i (by omega)⟩, fun h => by simp at h, by omega, fun j hj => ?_⟩
    refine hwz _ ?_
    have hj' : j < zs.length := by omega
    simp [List.getD_eq_getElem?_getD, hj']
theorem trod_float {H : Type} {enc : TypeId × Value → H} {W : World} {base : Nat} {spare : Nat → Bool} {held : Bool} {t : TypeId} {k : FloatKind} {n : Nat} {v : Value} {x : DataW H × List MemPlace} (ht : Try.prog.underlying t = some (.float k))
    (h : DataW.trod enc Try.prog W base spare held n t [v] = some x) : ∃ b, v = .float k b := by
  cases n with
  | zero => simp [DataW.trod] at h
  | succ n =>
    simp only [DataW.trod, ht] at h
    cases v with
    | float k' b =>
      by_cases hk : k' = k
      · exact ⟨b, by rw [hk]⟩
      · simp [hk] at h
    | _ => simp at h
theorem cells_floats {H : Type} {enc : TypeId × Value → H} {W : World} {t e : TypeId} {k : FloatKind} {a : Option Addr} {len cap : Nat} {d : DataW H} {ps : List MemPlace} (ht : Try.prog.underlying t = some (.slice e)) (he : Try.prog.underlying e = some (.float k)) (hc : Try.prog.cellsOf e = 1)
    (h : DataW.Trod enc Try.prog W 0 (fun _ => true) true t (.slice a len cap) d ps) :
    ∃ z : Nat → Nat, Cells W a len (fun j => .float k (z j)) ∧ (a = none → cap = 0) ∧ len ≤ 9223372036854775807 := by
  obtain ⟨fuel, hf⟩ := h
  rcases Go.Deep.open_slice1 ht hc hf with ⟨hcs, _⟩ | ⟨x, l, c, m, n, V, D, Pl, hcs, _, hl, hm, hmm, _, hV⟩
  · simp [Value.cells] at hcs
    obtain ⟨rfl, rfl, rfl⟩ := hcs
    exact ⟨fun _ => 0, .inl ⟨rfl, rfl⟩, fun _ => rfl, by omega⟩
  · simp [Value.cells] at hcs
    obtain ⟨rfl, rfl, rfl⟩ := hcs
    have hz' : m = cap := by simpa using hmm
    have e : maxLen = 9223372036854775807 := by decide
    refine ⟨fun j => (match V j with | .float _ b => b | _ => 0), .inr ⟨x, rfl, fun i hi => ?_⟩, fun h => by simp at h, by omega⟩
    obtain ⟨h1, h2⟩ := hV i (by omega)
    obtain ⟨b, hb⟩ := trod_float he h2
    rw [h1]
    simp only [hb]

/-! ### the walk -/
theorem walk {w : World} {a1 a2 a3 a4 a5 a6 : Option Addr} {n1 n2 n3 n4 n5 n6 c1 c2 c3 c4 c5 c6 : Nat} {z1 z2 z3 : Nat → Int} {z4 : Nat → Nat} {z5 z6 : Nat → Int} (b : Bool) (s c p o : Int) (hs : (Lit.int .i32 s).wf = true) (ho : (Lit.int .i32 o).wf = true)
    (hI : In w a1 a2 a3 a4 a5 a6 n1 n2 n3 n4 n5 n6 c1 c2 c3 c4 c5 c6 z1 z2 z3 z4 z5 z6) :
    Calls Try.prog 4 #[.bool b, .slice a1 n1 c1, .slice a2 n2 c2, .slice a3 n3 c3, .slice a4 n4 c4, .slice a5 n5 c5, .slice a6 n6 c6, .int .i32 s, .int .u8 c, .int .i32 p, .int .i32 o] w (Good w) := by
  by_cases hE : n1 + 8 * n2 + 8 * n3 + 8 * n4 + n5 + 8 * n6 ≤ 1048576 ∧ n4 = n3 ∧ n5 = n3 ∧ n6 = n3
  · obtain ⟨hS, rfl, rfl, rfl⟩ := hE
    cases b
    · by_cases hO : 0 ≤ s ∧ s < n1 ∧ s < n2 ∧ 0 ≤ o
      · obtain ⟨k0, k1, k2, k3⟩ := hO
        obtain ⟨s', rfl⟩ := Int.eq_ofNat_of_zero_le k0
        obtain ⟨o', rfl⟩ := Int.eq_ofNat_of_zero_le k3
        have hb := bounds_i32 ho
        exact law_dense s' o' c p (by omega) (by omega) (by omega) hI hS
      · exact law_dense_out s c p o (bounds_i32 hs) hI hS hO
    · exact law_sparse s c p o hs ho hI hS
  · exact law_early b s c p o hI hE

/-! ### THE ROW's STEP -/
set_option maxRecDepth 100000 in
theorem lifted (os : Os) (started : os.Started) (H : Type) (enc : TypeId × Value → H) :
    ReturnsInHanded {} Try.checked os 4 .any (Rows.fnKeepCodeThenCodeSpec.pre6 enc Try.prog Try.f4 Rows.fnKeepCodeThenCodeRow.domain false) (Rows.fnKeepCodeThenCodeSpec.post enc Try.prog Try.f4 false true false false) := by
  refine returnsInHanded_of_change (C := Try.checked) own started (by kernel_rfl) Try.func4
    (ChangeSpec.witness6 (enc := enc) (C := Try.checked) false ⟨#[], #[.bool false, .slice none 0 0, .slice none 0 0, .slice none 0 0, .slice none 0 0, .slice none 0 0, .slice none 0 0, .int .i32 0, .int .u8 0, .int .i32 0, .int .i32 0], []⟩ 8 (by kernel_rfl) (by kernel_rfl) (by kernel_rfl) (by kernel_rfl)) ?_
  intro W base args ds gs before hval0 hW hcnd _
  have hval : ∀ (j : Nat) t v, Try.f4.params[j]? = some t → args[j]? = some v → Value.okWide Try.prog W .any base t v := hval0
  have hW' := hW
  obtain ⟨p, q, hA0, hV, rfl, hfz, hnd⟩ := hW
  have hA : DataW.TrodAll enc Try.prog W 0 (fun _ => true) true Try.f4.params.toList args.toList ds p := hA0
  rw [Try.params4] at hA hval
  obtain ⟨v0, vs0, d0, ds0, p0, q0, hargs, rfl, rfl, h0, r0⟩ := trodAll_cons hA
  obtain ⟨v1, vs1, d1, ds1, p1, q1, rfl, rfl, rfl, h1, r1⟩ := trodAll_cons r0
  obtain ⟨v2, vs2, d2, ds2, p2, q2, rfl, rfl, rfl, h2, r2⟩ := trodAll_cons r1
  obtain ⟨v3, vs3, d3, ds3, p3, q3, rfl, rfl, rfl, h3, r3⟩ := trodAll_cons r2
  obtain ⟨v4, vs4, d4, ds4, p4, q4, rfl, rfl, rfl, h4, r4⟩ := trodAll_cons r3
  obtain ⟨v5, vs5, d5, ds5, p5, q5, rfl, rfl, rfl, h5, r5⟩ := trodAll_cons r4
  obtain ⟨v6, vs6, d6, ds6, p6, q6, rfl, rfl, rfl, h6, r6⟩ := trodAll_cons r5
  obtain ⟨v7, vs7, d7, ds7, p7, q7, rfl, rfl, rfl, h7, r7⟩ := trodAll_cons r6
  obtain ⟨v8, vs8, d8, ds8, p8, q8, rfl, rfl, rfl, h8, r8⟩ := trodAll_cons r7
  obtain ⟨v9, vs9, d9, ds9, p9, q9, rfl, rfl, rfl, h9, r9⟩ := trodAll_cons r8
  obtain ⟨v10, vs10, d10, ds10, p10, q10, rfl, rfl, rfl, h10, r10⟩ := trodAll_cons r9
  obtain ⟨rfl, rfl, rfl⟩ := trodAll_nil r10
  obtain rfl : args = #[v0, v1, v2, v3, v4, v5, v6, v7, v8, v9, v10] := by cases args; simp_all
  obtain ⟨rfl, rfl⟩ := trodVars_none hV
  obtain ⟨a1, n1, c1, rfl⟩ := okWide_slice Try.underlying22 (hval 1 22 v1 rfl rfl)
  have k1 := h1
  have lt1 : ∀ x ∈ p1, x.block < W.heap.size := by obtain ⟨m, hm⟩ := k1; exact DataW.trod_lt m _ _ _ hm
  obtain ⟨z1, C1, E1, M1, K1⟩ := cells_ints Try.underlying22 Try.underlying5 (by kernel_rfl) h1
  obtain ⟨a2, n2, c2, rfl⟩ := okWide_slice Try.underlying25 (hval 2 25 v2 rfl rfl)
  have k2 := h2
  have lt2 : ∀ x ∈ p2, x.block < W.heap.size := by obtain ⟨m, hm⟩ := k2; exact DataW.trod_lt m _ _ _ hm
  obtain ⟨z2, C2, E2, M2, K2⟩ := cells_ints Try.underlying25 Try.underlying21 (by kernel_rfl) h2
  obtain ⟨a3, n3, c3, rfl⟩ := okWide_slice Try.underlying25 (hval 3 25 v3 rfl rfl)
  have k3 := h3
  have lt3 : ∀ x ∈ p3, x.block < W.heap.size := by obtain ⟨m, hm⟩ := k3; exact DataW.trod_lt m _ _ _ hm
  obtain ⟨z3, C3, E3, M3, K3⟩ := cells_ints Try.underlying25 Try.underlying21 (by kernel_rfl) h3
  obtain ⟨a4, n4, c4, rfl⟩ := okWide_slice Try.underlying26 (hval 4 26 v4 rfl rfl)
  have k4 := h4
  have lt4 : ∀ x ∈ p4, x.block < W.heap.size := by obtain ⟨m, hm⟩ := k4; exact DataW.trod_lt m _ _ _ hm
  obtain ⟨z4, C4, E4, M4⟩ := cells_floats Try.underlying26 Try.underlying27 (by kernel_rfl) h4
  obtain ⟨a5, n5, c5, rfl⟩ := okWide_slice Try.underlying22 (hval 5 22 v5 rfl rfl)
  have k5 := h5
  have lt5 : ∀ x ∈ p5, x.block < W.heap.size := by obtain ⟨m, hm⟩ := k5; exact DataW.trod_lt m _ _ _ hm
  obtain ⟨z5, C5, E5, M5, K5⟩ := cells_ints Try.underlying22 Try.underlying5 (by kernel_rfl) h5
  obtain ⟨a6, n6, c6, rfl⟩ := okWide_slice Try.underlying25 (hval 6 25 v6 rfl rfl)
  have k6 := h6
  have lt6 : ∀ x ∈ p6, x.block < W.heap.size := by obtain ⟨m, hm⟩ := k6; exact DataW.trod_lt m _ _ _ hm
  obtain ⟨z6, C6, E6, M6, K6⟩ := cells_ints Try.underlying25 Try.underlying21 (by kernel_rfl) h6
  obtain ⟨b0, rfl, rfl, rfl⟩ := open_bool Try.underlying4 (hval 0 4 v0 rfl rfl) h0
  obtain ⟨x7, rfl, rfl, rfl, w7⟩ := open_int Try.underlying21 (hval 7 21 v7 rfl rfl) h7
  obtain ⟨x8, rfl, rfl, rfl, w8⟩ := open_int Try.underlying5 (hval 8 5 v8 rfl rfl) h8
  obtain ⟨x9, rfl, rfl, rfl, w9⟩ := open_int Try.underlying21 (hval 9 21 v9 rfl rfl) h9
  obtain ⟨x10, rfl, rfl, rfl, w10⟩ := open_int Try.underlying21 (hval 10 21 v10 rfl rfl) h10
  clear hA0 hval0
  have hI : In W a1 a2 a3 a4 a5 a6 n1 n2 n3 n4 n5 n6 c1 c2 c3 c4 c5 c6 z1 z2 z3 z4 z5 z6 := ⟨C1, C2, C3, C4, C5, C6, E1, E2, E3, E4, E5, E6, M1, M2, M3, M4, M5, M6, K3⟩
  refine (walk b0 x7 x8 x9 x10 w7 w10 hI).mono fun e W' ⟨he, bel⟩ => ?_
  subst he
  exact ⟨_, rfl, _, _, _, [], _, [], hW', trodAll_mk1 (shut_bool Try.underlying4 _), (trodAll_cons_mk (shut_bool Try.underlying4 _) (trodAll_cons_mk (Below.trod laidOut (by kernel_rfl) (of_decide_eq_true (by kernel_rfl)) k1 bel lt1) (trodAll_cons_mk (Below.trod laidOut (by kernel_rfl) (of_decide_eq_true (by kernel_rfl)) k2 bel lt2) (trodAll_cons_mk (Below.trod laidOut (by kernel_rfl) (of_decide_eq_true (by kernel_rfl)) k3 bel lt3) (trodAll_cons_mk (Below.trod laidOut (by kernel_rfl) (of_decide_eq_true (by kernel_rfl)) k4 bel lt4) (trodAll_cons_mk (Below.trod laidOut (by kernel_rfl) (of_decide_eq_true (by kernel_rfl)) k5 bel lt5) (trodAll_cons_mk (Below.trod laidOut (by kernel_rfl) (of_decide_eq_true (by kernel_rfl)) k6 bel lt6) (trodAll_cons_mk (shut_int Try.underlying21 w7) (trodAll_cons_mk (shut_int Try.underlying5 w8) (trodAll_cons_mk (shut_int Try.underlying21 w9) (trodAll_cons_mk (shut_int Try.underlying21 w10) trodAll_mk0))))))))))), rfl, bel.frame _, fun h => by cases h⟩

theorem over : Rows.fnKeepCodeThenCodeRow.holds Try.pinned (OpenSpec.ofChange Rows.fnKeepCodeThenCodeSpec) :=
  OpenClaim.holds_of_wide 4 Try.f4 rfl rfl rfl rfl rfl rfl rfl ⟨rfl, rfl, rfl, rfl, rfl⟩ rfl rfl rfl rfl rfl (by kernel_rfl) Try.func4 (by kernel_rfl)
    (of_decide_eq_true (by kernel_rfl)) (by unfold Func.isWrapper; first | (rw [if_pos (by decide +kernel)]; kernel_rfl) | (rw [if_neg (by decide +kernel)]; exact ⟨rfl, rfl⟩))
    (fun os started H enc _ => lifted os started H enc)

/-- ████ THE STATEMENT ████ -/
theorem proved : Rows.FnKeepCodeThenCodeSaid := over
end Go.Proofs.Qxb6601588a.fnKeepCodeThenCode
