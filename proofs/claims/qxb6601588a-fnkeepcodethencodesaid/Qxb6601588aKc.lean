/-
  WALKS: code, keepCode (sparse).
-/
import Derived.Test.Qxb6601588aKb
import Derived.Maps.Own
import Derived.Maps.OwnSet
import Derived.Maps.Views
namespace Go.Proofs.Qxb6601588a
open Go.RowKit
open Go.Maps (Keyed int_keyed keyOf_int_mk)
set_option linter.unusedVariables false
set_option linter.unusedSimpArgs false
attribute [local go_sem] run_store_float

/-- how a cell of the map reads: by its code alone -/
def Rl : List Value → Option (DataW Unit × List MemPlace)
  | [.float .f64 _, .int .u8 c, .int .i32 _] => some (.lit (.int .u8 c), [])
  | _ => none
def Rc : Value → Option (DataW Unit × List MemPlace)
  | .agg cs => Rl cs.toList
  | _ => none
theorem Rc_mk (f : Nat) (c p : Int) : Rc (.agg #[.float .f64 f, .int .u8 c, .int .i32 p]) = some (.lit (.int .u8 c), []) := rfl
theorem Rc_inv {v : Value} {z : DataW Unit × List MemPlace} (h : Rc v = some z) : ∃ f c p, v = .agg #[.float .f64 f, .int .u8 c, .int .i32 p] ∧ z = (.lit (.int .u8 c), []) := by
  cases v with
  | agg cs =>
    obtain ⟨l⟩ := cs
    simp only [Rc, Rl] at h
    split at h
    · simp at h
      exact ⟨_, _, _, rfl, h.symm⟩
    · cases h
  | _ => simp [Rc] at h
theorem keyLaw : Keyed Try.prog 21 := int_keyed Try.underlying21
theorem zeroE (w : World) : (zeroValue 45).run Try.prog w = .ok (.agg #[.float .f64 0, .int .u8 0, .int .i32 0]) w := by kernel_rfl
theorem map_neq_some (w : World) (b : Nat) : (binOp .neq 41 (.map (some b)) (.map none)).run Try.prog w = .ok (.bool true) w := by kernel_rfl
theorem map_eql_some (w : World) (b : Nat) : (binOp .eql 41 (.map (some b)) (.map none)).run Try.prog w = .ok (.bool false) w := by kernel_rfl
theorem map_neq_none (w : World) : (binOp .neq 41 (.map none) (.map none)).run Try.prog w = .ok (.bool false) w := by kernel_rfl
theorem map_eql_none (w : World) : (binOp .eql 41 (.map none) (.map none)).run Try.prog w = .ok (.bool true) w := by kernel_rfl
theorem mk_map (n : Nat) (w : World) : (Instr.makeMap 41 (some (.int .i64 n))).run Try.prog w = .ok (.map (some w.heap.size)) (w.alloc (.map #[] 0)) := by
  first | rfl | simp [Instr.makeMap, go_sem]

/-- the code that the map holds at a slot, 255 where it holds none -/
def codeOf (D : DataW Unit) (s : Int) : Int := if Maps.has D (.int .i32 s) then (match D.atKey (.int .i32 s) (.lit (.int .u8 0)) with | .lit (.int _ c) => c | _ => 0) else 255
theorem look {w : World} {b n : Nat} {D : DataW Unit} (h : w.ownsMap Try.prog 21 Rc b n D) (s : Int) (hs : (Lit.int .i32 s).wf = true) :
    ∃ f c p, (Instr.lookup 41 (.map (some b)) (.int .i32 s) true).run Try.prog w = .ok (.tuple #[.agg #[.float .f64 f, .int .u8 c, .int .i32 p], .bool (Maps.has D (.int .i32 s))]) w ∧ (Maps.has D (.int .i32 s) = true → c = codeOf D s) := by
  obtain ⟨v, ps, hrun, hv⟩ := h.look_ok keyLaw Try.underlying41 (zeroE w) (Rc_mk 0 0 0) (keyOf_int_mk Try.underlying21 hs)
  obtain ⟨f, c, p, rfl, hz⟩ := Rc_inv hv
  refine ⟨f, c, p, hrun, fun hh => ?_⟩
  simp only [Prod.mk.injEq] at hz
  unfold codeOf
  rw [if_pos hh, hz.1]
theorem look0 {w : World} {b n : Nat} {D : DataW Unit} (h : w.ownsMap Try.prog 21 Rc b n D) (s : Int) (hs : (Lit.int .i32 s).wf = true) :
    ∃ f c p, (Instr.lookup 41 (.map (some b)) (.int .i32 s) false).run Try.prog w = .ok (.agg #[.float .f64 f, .int .u8 c, .int .i32 p]) w := by
  obtain ⟨v, ps, hrun, hv⟩ := h.lookup keyLaw Try.underlying41 (zeroE w) (Rc_mk 0 0 0) (keyOf_int_mk Try.underlying21 hs)
  obtain ⟨f, c, p, rfl, hz⟩ := Rc_inv hv
  exact ⟨f, c, p, hrun⟩
theorem code_put_same {D : DataW Unit} (hD : Maps.IsMap D) (s c : Int) : codeOf (D.put (.int .i32 s) (.lit (.int .u8 c))) s = c := by
  unfold codeOf
  rw [Maps.has_put_same hD (by first | trivial | simp [WideAt.IsKeyLit]), if_pos rfl, Maps.atKey_put_same hD (by first | trivial | simp [WideAt.IsKeyLit])]
theorem code_put_other {D : DataW Unit} (s t c : Int) (h : t ≠ s) : codeOf (D.put (.int .i32 s) (.lit (.int .u8 c))) t = codeOf D t := by
  have hne : (Lit.int .i32 t) ≠ .int .i32 s := fun e => h (by injection e)
  unfold codeOf
  rw [Maps.has_put_other hne, Maps.atKey_put_other hne]

/-- the column's cells -/
def colRow (cd ps mp : Value) : List Value := [.int .i64 0, .slice none 0 0, .slice none 0 0, .int .i64 0, .int .i64 0, .slice none 0 0, cd, ps, mp]

set_option maxRecDepth 100000 in
set_option maxHeartbeats 1000000 in
theorem code_sparse (C Mb n : Nat) (cd ps : Value) (D : DataW Unit) (s : Int) (hs : (Lit.int .i32 s).wf = true) (w : World) (hC : Row w C (colRow cd ps (.map (some Mb))) 43) (hM : w.ownsMap Try.prog 21 Rc Mb n D) :
    Calls Try.prog 20 #[.pointer (some ⟨C, 0, none⟩), .int .i32 s] w fun e w' => e = .returned (.int .u8 (codeOf D s)) ∧ Below w.heap.size w w' := by
  have c8 : w.cell? ⟨C, 8, none⟩ = some (.map (some Mb)) := hC.cell 8
  obtain ⟨f, c, p, hrun, hc⟩ := look hM s hs
  have hlt := hC.lt
  replace hC := hide hC
  replace hM := hide hM
  have hmn := fun w => map_neq_some w Mb
  cases hh : Maps.has D (.int .i32 s)
  · rw [hh] at hrun
    have HC : Hid (codeOf D s = 255) := by unfold Hid codeOf; rw [hh]; rfl
    rw [HC.out]
    clear hc hh
    go_enter Try.func20, Try.ntmps20
    go_wp2
    go_ret
    exact ⟨rfl, (Below.refl _ _).alloc (Nat.le_refl _) _⟩
  · rw [hh] at hrun
    have HC := hide (hc hh)
    clear hc hh
    go_enter Try.func20, Try.ntmps20
    go_wp2
    go_ret
    exact ⟨by rw [← HC.out]; rfl, (Below.refl _ _).alloc (Nat.le_refl _) _⟩
theorem zzcode_sparse (C Mb n : Nat) (cd ps : Value) (D : DataW Unit) (s : Int) (hs : (Lit.int .i32 s).wf = true) (w : World) (hC : Row w C (colRow cd ps (.map (some Mb))) 43) (hM : w.ownsMap Try.prog 21 Rc Mb n D) :
    Calls Try.prog 10 #[.pointer (some ⟨C, 0, none⟩), .int .i32 s] w fun e w' => e = .returned (.int .u8 (codeOf D s)) ∧ Below w.heap.size w w' := by
  have H := hide (code_sparse C Mb n cd ps D s hs w hC hM)
  replace hC := hide hC
  replace hM := hide hM
  go_enter Try.func10, Try.ntmps10
  go_wp2_with fail
  refine H.out.mono ?_; rintro e w1 ⟨rfl, hb⟩
  replace hb := hide hb
  go_wp2
  go_ret
  exact ⟨rfl, hb.out⟩

/-- the code of a dense column -/
def codeAt (z : Nat → Int) (n : Nat) (s : Nat) : Int := if s < n then z s else 255
set_option maxRecDepth 100000 in
set_option maxHeartbeats 1000000 in
theorem code_dense (C n gc s : Nat) (a : Option Addr) (ps : Value) (z : Nat → Int) (hn : n ≤ 1048576) (hsm : s ≤ 2147483647) (w : World) (hC : Row w C (colRow (.slice a n n) ps (.map none)) 43)
    (ha : 0 < n → a = some ⟨gc, 0, none⟩) (hz : ∀ j, j < n → w.cell? ⟨gc, j, none⟩ = some (.int .u8 (z j))) :
    Calls Try.prog 20 #[.pointer (some ⟨C, 0, none⟩), .int .i32 s] w fun e w' => e = .returned (.int .u8 (codeAt z n s)) ∧ w' = w := by
  have c8 : w.cell? ⟨C, 8, none⟩ = some (.map none) := hC.cell 8
  have c6 : w.cell? ⟨C, 6, none⟩ = some (.slice a n n) := hC.cell 6
  have hlt := hC.lt
  replace hC := hide hC
  have hmn := map_neq_none
  by_cases h : s < n
  · have cz := hz s h
    have ha' := ha (by omega)
    subst ha'
    have HV : Hid (codeAt z n s = z s) := by unfold Hid codeAt; rw [if_pos h]
    rw [HV.out]
    clear hz ha
    go_enter Try.func20, Try.ntmps20
    go_wp2
    go_ret
    exact ⟨rfl, rfl⟩
  · have HV : Hid (codeAt z n s = 255) := by unfold Hid codeAt; rw [if_neg h]
    rw [HV.out]
    clear hz ha
    go_enter Try.func20, Try.ntmps20
    go_wp2
    go_ret
    exact ⟨rfl, rfl⟩
theorem zzcode_dense (C n gc s : Nat) (a : Option Addr) (ps : Value) (z : Nat → Int) (hn : n ≤ 1048576) (hsm : s ≤ 2147483647) (w : World) (hC : Row w C (colRow (.slice a n n) ps (.map none)) 43)
    (ha : 0 < n → a = some ⟨gc, 0, none⟩) (hz : ∀ j, j < n → w.cell? ⟨gc, j, none⟩ = some (.int .u8 (z j))) :
    Calls Try.prog 10 #[.pointer (some ⟨C, 0, none⟩), .int .i32 s] w fun e w' => e = .returned (.int .u8 (codeAt z n s)) ∧ w' = w := by
  have H := hide (code_dense C n gc s a ps z hn hsm w hC ha hz)
  clear hC ha hz
  go_enter Try.func10, Try.ntmps10
  go_wp2_with fail
  refine H.out.mono ?_; rintro e w1 ⟨rfl, rfl⟩
  go_wp2
  go_ret
  exact ⟨rfl, rfl⟩

/-! ### keepCode -/
set_option maxRecDepth 100000 in
set_option maxHeartbeats 2000000 in
theorem keep_sparse (C Mb n : Nat) (cd ps : Value) (D : DataW Unit) (s c p : Int) (hs : (Lit.int .i32 s).wf = true) (w : World) (hn : n ≤ 1048576) (hC : Row w C (colRow cd ps (.map (some Mb))) 43) (hM : w.ownsMap Try.prog 21 Rc Mb n D) (hne : C ≠ Mb) :
    Calls Try.prog 21 #[.pointer (some ⟨C, 0, none⟩), .int .i32 s, .int .u8 c, .int .i32 p] w fun e w' => e = .returned (.tuple #[]) ∧ Row w' C (colRow cd ps (.map (some Mb))) 43 ∧ w'.ownsMap Try.prog 21 Rc Mb (n + 1) (D.put (.int .i32 s) (.lit (.int .u8 c))) ∧ ∀ B, B ≤ C → B ≤ Mb → Below B w w' := by
  have c8 : w.cell? ⟨C, 8, none⟩ = some (.map (some Mb)) := hC.cell 8
  obtain ⟨f, c0, p0, hrun⟩ := look0 hM s hs
  have hlt := hC.lt
  have hmn := fun w => map_eql_some w Mb
  have hMn := hM.alloc (.cells #[.float .f64 f, .int .u8 c, .int .i32 p] 45)
  obtain ⟨w1, hup, hM1, hg1⟩ := hMn.drew.update keyLaw Try.underlying41 (show n < maxLen by unfold maxLen; omega) (keyOf_int_mk Try.underlying21 hs) (Rc_mk f c p)
  have hC1 : Row w1 C (colRow cd ps (.map (some Mb))) 43 := by
    have h1 := (hC.alloc (.cells #[.float .f64 f, .int .u8 c, .int .i32 p] 45) hlt).drew
    have h2 := h1.lt
    unfold Row at h1 ⊢
    rw [hg1.block C h2 (by simp; exact hne)]
    exact h1
  replace hC := hide hC
  replace hM := hide hM
  replace hMn := hide hMn
  replace hM1 := hide hM1
  replace hg1 := hide hg1
  replace hC1 := hide hC1
  go_enter Try.func21, Try.ntmps21
  go_wp2
  go_region
  go_end0
  refine ⟨rfl, hC1.out, hM1.out, fun B h1 h2 => ?_⟩
  exact (((Below.refl B w).alloc (by omega) _).drew).grown hg1.out (by simp; omega) (fun j hj => by cases hj; exact h2)
theorem zzkeep_sparse (C Mb n : Nat) (cd ps : Value) (D : DataW Unit) (s c p : Int) (hs : (Lit.int .i32 s).wf = true) (w : World) (hn : n ≤ 1048576) (hC : Row w C (colRow cd ps (.map (some Mb))) 43) (hM : w.ownsMap Try.prog 21 Rc Mb n D) (hne : C ≠ Mb) :
    Calls Try.prog 15 #[.pointer (some ⟨C, 0, none⟩), .int .i32 s, .int .u8 c, .int .i32 p] w fun e w' => e = .returned (.tuple #[]) ∧ Row w' C (colRow cd ps (.map (some Mb))) 43 ∧ w'.ownsMap Try.prog 21 Rc Mb (n + 1) (D.put (.int .i32 s) (.lit (.int .u8 c))) ∧ ∀ B, B ≤ C → B ≤ Mb → Below B w w' := by
  have H := hide (keep_sparse C Mb n cd ps D s c p hs w hn hC hM hne)
  clear hC hM
  go_enter Try.func15, Try.ntmps15
  go_wp2_with fail
  refine H.out.mono ?_; rintro e w1 ⟨rfl, h1, h2, h3⟩
  replace h1 := hide h1
  replace h2 := hide h2
  replace h3 := hide h3
  go_wp2
  go_end0
  exact ⟨rfl, h1.out, h2.out, h3.out⟩

set_option maxRecDepth 100000 in
set_option maxHeartbeats 2000000 in
theorem keep_dense (C n np gc gp s : Nat) (x y c p : Int) (w : World) (hn : n ≤ 1048576) (hnp : np ≤ 1048576) (hsn : s < n) (hsp : s < np) (hne : gc ≠ gp) (hC : Row w C (colRow (.slice (some ⟨gc, 0, none⟩) n n) (.slice (some ⟨gp, 0, none⟩) np np) (.map none)) 43)
    (d0 : w.cell? ⟨gc, s, none⟩ = some (.int .u8 x)) (d1 : w.cell? ⟨gp, s, none⟩ = some (.int .i32 y)) (f0 : w.frozen? ⟨gc, s, none⟩ = false) (f1 : w.frozen? ⟨gp, s, none⟩ = false) (hCc : C ≠ gc) (hCp : C ≠ gp) :
    Calls Try.prog 21 #[.pointer (some ⟨C, 0, none⟩), .int .i32 s, .int .u8 c, .int .i32 p] w fun e w' => e = .returned (.tuple #[]) ∧ w' = ((w.setCell ⟨gc, s, none⟩ (.int .u8 c)).setCell ⟨gp, s, none⟩ (.int .i32 p)).drew := by
  have c8 : w.cell? ⟨C, 8, none⟩ = some (.map none) := hC.cell 8
  have c6 : w.cell? ⟨C, 6, none⟩ = some (.slice (some ⟨gc, 0, none⟩) n n) := hC.cell 6
  have c7 : w.cell? ⟨C, 7, none⟩ = some (.slice (some ⟨gp, 0, none⟩) np np) := hC.cell 7
  have hlt := hC.lt
  have hmn := map_eql_none
  have hsi : (s : Int) < (n : Int) := by omega
  have hsj : (s : Int) < (np : Int) := by omega
  replace hC := hide hC
  go_enter Try.func21, Try.ntmps21
  go_wp2
  go_region
  go_wp2
  refine bodyPost_ret (results_none rfl _ _ _) rfl ?_
  exact ⟨rfl, rfl⟩
theorem zzkeep_dense (C n np gc gp s : Nat) (x y c p : Int) (w : World) (hn : n ≤ 1048576) (hnp : np ≤ 1048576) (hsn : s < n) (hsp : s < np) (hne : gc ≠ gp) (hC : Row w C (colRow (.slice (some ⟨gc, 0, none⟩) n n) (.slice (some ⟨gp, 0, none⟩) np np) (.map none)) 43)
    (d0 : w.cell? ⟨gc, s, none⟩ = some (.int .u8 x)) (d1 : w.cell? ⟨gp, s, none⟩ = some (.int .i32 y)) (f0 : w.frozen? ⟨gc, s, none⟩ = false) (f1 : w.frozen? ⟨gp, s, none⟩ = false) (hCc : C ≠ gc) (hCp : C ≠ gp) :
    Calls Try.prog 15 #[.pointer (some ⟨C, 0, none⟩), .int .i32 s, .int .u8 c, .int .i32 p] w fun e w' => e = .returned (.tuple #[]) ∧ w' = ((w.setCell ⟨gc, s, none⟩ (.int .u8 c)).setCell ⟨gp, s, none⟩ (.int .i32 p)).drew := by
  have H := hide (keep_dense C n np gc gp s x y c p w hn hnp hsn hsp hne hC d0 d1 f0 f1 hCc hCp)
  clear hC d0 d1 f0 f1
  go_enter Try.func15, Try.ntmps15
  go_wp2_with fail
  refine H.out.mono ?_; rintro e w1 ⟨rfl, rfl⟩
  go_wp2
  go_end0
  exact ⟨rfl, rfl⟩
end Go.Proofs.Qxb6601588a
