/-
  ROWS OF FIELDS IN MEMORY; WALK: zzConvertFields.
-/
import Derived.Test.Qxb6601586aDtW
import Derived.RegionTactic
import Derived.BigRegion
import Derived.Deep.QuietTactic
import Derived.BigQuiet
import Derived.Laws.Rows
namespace Go.Proofs.Qxb6601586a.Dt
open Go.RowKit

def rowOf : List Fld → List Value
  | [] => []
  | x :: r => .int .i64 x.n :: .int .i64 x.w :: .int .u8 x.s :: rowOf r
theorem rowOf_len (fs : List Fld) : (rowOf fs).length = 3 * fs.length := by
  induction fs with
  | nil => rfl
  | cons x r ih => simp only [rowOf, List.length_cons, ih]; omega
theorem rowOf_get (fs : List Fld) : ∀ k x, fs[k]? = some x → (rowOf fs)[k * 3]? = some (.int .i64 x.n) ∧ (rowOf fs)[k * 3 + 1]? = some (.int .i64 x.w) ∧ (rowOf fs)[k * 3 + 2]? = some (.int .u8 x.s) := by
  induction fs with
  | nil => intro k x h; simp at h
  | cons y r ih =>
    intro k x h
    cases k with
    | zero => simp at h; subst h; exact ⟨rfl, rfl, rfl⟩
    | succ k =>
      have := ih k x (by simpa using h)
      simp only [rowOf, show (k + 1) * 3 = k * 3 + 1 + 1 + 1 from by omega, List.getElem?_cons_succ]
      exact this
theorem rowOf_set (fs : List Fld) : ∀ k x, k < fs.length → (((rowOf fs).set (k * 3) (.int .i64 x.n)).set (k * 3 + 1) (.int .i64 x.w)).set (k * 3 + 2) (.int .u8 x.s) = rowOf (fs.set k x) := by
  induction fs with
  | nil => intro k x h; simp at h
  | cons y r ih =>
    intro k x h
    cases k with
    | zero => rfl
    | succ k =>
      have := ih k x (by simpa using h)
      simp only [rowOf, show (k + 1) * 3 = k * 3 + 1 + 1 + 1 from by omega, List.set_cons_succ, this]

/-- the row of block g -/
def Row (w : World) (g : Nat) (vs : List Value) (t : TypeId) : Prop := w.heap[g]? = some (.cells vs.toArray t (0, 0))
theorem Row.cell {w : World} {g : Nat} {vs : List Value} {t : TypeId} (h : Row w g vs t) (j : Nat) : w.cell? ⟨g, j, none⟩ = vs[j]? := by
  rw [cell_of_row w g j vs.toArray t (0, 0) h]; simp
theorem Row.frozen {w : World} {g : Nat} {vs : List Value} {t : TypeId} (h : Row w g vs t) (j : Nat) : w.frozen? ⟨g, j, none⟩ = false :=
  frozen_of_row w g j vs.toArray t h
theorem Row.setCell {w : World} {g : Nat} {vs : List Value} {t : TypeId} (h : Row w g vs t) (j : Nat) (v : Value) : Row (w.setCell ⟨g, j, none⟩ v) g (vs.set j v) t := by
  unfold Row
  rw [heap_setCell_same w g j vs.toArray t v h]; simp
theorem Row.setOther {w : World} {g : Nat} {vs : List Value} {t : TypeId} (h : Row w g vs t) (a : Addr) (v : Value) (hne : g ≠ a.block) : Row (w.setCell a v) g vs t := by
  unfold Row
  rw [heap_setCell_other w a g v hne]; exact h
theorem Row.alloc {w : World} {g : Nat} {vs : List Value} {t : TypeId} (h : Row w g vs t) (o : Obj) (hg : g < w.heap.size) : Row (w.alloc o) g vs t := by
  unfold Row
  rw [Below.heap_alloc w o g hg]; exact h
theorem Row.drew {w : World} {g : Nat} {vs : List Value} {t : TypeId} (h : Row w g vs t) : Row w.drew g vs t := h
theorem Row.new (w : World) (vs : List Value) (t : TypeId) (g : Nat) (h : g = w.heap.size) : Row (w.alloc (.cells vs.toArray t)) g vs t := by
  subst h; exact heap_alloc_new w _
theorem Row.lt {w : World} {g : Nat} {vs : List Value} {t : TypeId} (h : Row w g vs t) : g < w.heap.size := by
  unfold Row at h
  rw [Array.getElem?_eq_some_iff] at h
  exact h.1
theorem Row.below {w w' : World} {B g : Nat} {vs : List Value} {t : TypeId} (h : Row w g vs t) (hb : Below B w w') (hg : g < B) : Row w' g vs t := by
  unfold Row
  rw [hb.block g hg]; exact h

theorem Row.setRow {w : World} {g : Nat} {vs : List Value} {t : TypeId} (h : Row w g vs t) (us : List Value) : Row (w.setRow g us.toArray) g us t :=
  setRow_heap w g vs.toArray us.toArray t (0, 0) h
theorem Row.setRowOther {w : World} {g : Nat} {vs : List Value} {t : TypeId} (h : Row w g vs t) (g' : Nat) (us : Array Value) (hne : g ≠ g') : Row (w.setRow g' us) g vs t := by
  unfold Row
  rw [setRow_other w g' g us hne]; exact h
theorem below_setRow {B : Nat} {a w : World} (h : Below B a w) (g : Nat) (hg : B ≤ g) (cs : Array Value) : Below B a (w.setRow g cs) :=
  h.trans ⟨rfl, rfl, rfl, by simp, fun k hk => setRow_other w g k cs (by omega)⟩
theorem rowOf_one (fs : List Fld) : (rowOf fs).toArray.all (·.oneCell') = true := by
  rw [Array.all_eq_true_iff_forall_mem]
  induction fs with
  | nil => intro v h; simp [rowOf] at h
  | cons x r ih =>
    intro v h
    simp only [rowOf, List.mem_toArray, List.mem_cons] at h
    rcases h with rfl | rfl | rfl | h
    · rfl
    · rfl
    · rfl
    · exact ih v (by simpa using h)
/-- the results of a function whose one result lies in a row -/
theorem ret_row {P : Program} {fn : Func} {R : Ending → World → Prop} {a : Act} {w : World} {p : Tmp} {ty : TypeId} (h : fn.results = #[.cell p ty]) (g : Nat) (t : TypeId) (cs : List Value) (d : TypeDesc)
    (hp : a.tmps.getD p undef = .pointer (some ⟨g, 0, none⟩)) (hg : Row w g cs t)
    (hu : P.underlying ty = some d) (hd : (match d with | .struct _ | .array _ _ => true | _ => false) = true) (hi : (P.info? ty).map (·.size) = some cs.toArray.size)
    (hdf : a.defers = []) (hR : R (.returned (.agg cs.toArray)) w) : bodyPost P fn R .ret a w :=
  bodyPost_ret (results_cell_row h _ w g t cs.toArray (0, 0) d hp hg hu hd hi) hdf hR
/-- a row and one value beside it -/
theorem ret_row2 {P : Program} {fn : Func} {R : Ending → World → Prop} {a : Act} {w : World} {p u : Tmp} {ty : TypeId} (h : fn.results = #[.cell p ty, .tmp u]) (g : Nat) (t : TypeId) (cs : List Value) (d : TypeDesc)
    (hp : a.tmps.getD p undef = .pointer (some ⟨g, 0, none⟩)) (hg : Row w g cs t)
    (hu : P.underlying ty = some d) (hd : (match d with | .struct _ | .array _ _ => true | _ => false) = true) (hi : (P.info? ty).map (·.size) = some cs.toArray.size)
    (hdf : a.defers = []) (hR : R (.returned (.tuple #[.agg cs.toArray, a.tmps.getD u undef])) w) : bodyPost P fn R .ret a w := by
  refine bodyPost_ret ?_ hdf hR
  have hp' : a.tmps[p]?.getD undef = .pointer (some ⟨g, 0, none⟩) := by simpa using hp
  simp [results, h, hp', asAddr, run_loadVar_row w g t ty cs.toArray (0, 0) d hg hu hd hi]
/-- a row and two values beside it -/
theorem ret_row3 {P : Program} {fn : Func} {R : Ending → World → Prop} {a : Act} {w : World} {p u v : Tmp} {ty : TypeId} (h : fn.results = #[.cell p ty, .tmp u, .tmp v]) (g : Nat) (t : TypeId) (cs : List Value) (d : TypeDesc)
    (hp : a.tmps.getD p undef = .pointer (some ⟨g, 0, none⟩)) (hg : Row w g cs t)
    (hu : P.underlying ty = some d) (hd : (match d with | .struct _ | .array _ _ => true | _ => false) = true) (hi : (P.info? ty).map (·.size) = some cs.toArray.size)
    (hdf : a.defers = []) (hR : R (.returned (.tuple #[.agg cs.toArray, a.tmps.getD u undef, a.tmps.getD v undef])) w) : bodyPost P fn R .ret a w := by
  refine bodyPost_ret ?_ hdf hR
  have hp' : a.tmps[p]?.getD undef = .pointer (some ⟨g, 0, none⟩) := by simpa using hp
  simp [results, h, hp', asAddr, run_loadVar_row w g t ty cs.toArray (0, 0) d hg hu hd hi]
theorem take_set_succ (gs fs : List Fld) (k : Nat) (x : Fld) (h : gs.take k = fs.take k) (hk : k < gs.length) (hx : fs[k]? = some x) : (gs.set k x).take (k + 1) = fs.take (k + 1) := by
  have hk2 : k < fs.length := (List.getElem?_eq_some_iff.1 hx).1
  rw [List.take_succ_eq_append_getElem (by simpa using hk), List.take_succ_eq_append_getElem hk2, List.take_set_of_le (Nat.le_refl k), h, List.getElem_set_self, (List.getElem?_eq_some_iff.1 hx).2]

set_option maxHeartbeats 2000000 in
theorem convert_any (fs : List Fld) (h7 : fs.length = 7) (w : World) :
    Calls Try.prog 23 #[.agg (rowOf fs).toArray] w fun e w' => e = .returned (.agg (rowOf fs).toArray) ∧ Below w.heap.size w w' := by
  have hl : (rowOf fs).length = 21 := by rw [rowOf_len]; omega
  obtain ⟨R, HR⟩ : ∃ R, Hid (rowOf fs = R) := ⟨_, hide rfl⟩
  rw [HR.out] at hl
  rw [HR.out]
  go_enter Try.func23, Try.ntmps23
  go_wp2
  go_loopw [4] (fun v4 wr => ∃ (k : Nat) (gs : List Fld), k ≤ 7 ∧ gs.length = 7 ∧ gs.take k = fs.take k ∧ Row wr w.heap.size R 45 ∧ Row wr (w.heap.size + 1) (rowOf zero7) 28 ∧ Row wr (w.heap.size + 2) (rowOf gs) 28 ∧ Below w.heap.size w wr ∧ v4 = .int .i64 k) (fun v4 _ => 7 - (intOf v4).toNat)
  case atStart =>
    exact ⟨0, zero7, by omega, rfl, by simp, ((Row.new w R 45 _ rfl).alloc _ (by simp <;> omega)).alloc _ (by simp <;> omega), (Row.new _ (rowOf zero7) 28 _ (by simp <;> omega)).alloc _ (by simp <;> omega), Row.new _ (rowOf zero7) 28 _ (by simp <;> omega), (((Below.refl _ _).alloc (by simp <;> omega) _).alloc (by simp <;> omega) _).alloc (by simp <;> omega) _, rfl⟩
  case round =>
    obtain ⟨k, gs, hk, hg7, hT, r0, r1, r2, hb, rfl⟩ := hrel
    by_cases hlt : k < 7
    · obtain ⟨x, hx⟩ : ∃ x, fs[k]? = some x := ⟨fs[k]'(by omega), by simp⟩
      have hget := rowOf_get fs k x hx
      rw [HR.out] at hget
      have c0 := (r0.cell (k * 3)).trans hget.1
      have c1 := (r0.cell (k * 3 + 1)).trans hget.2.1
      have c2 := (r0.cell (k * 3 + 2)).trans hget.2.2
      obtain ⟨y, hy⟩ : ∃ y, gs[k]? = some y := ⟨gs[k]'(by omega), by simp⟩
      have hget2 := rowOf_get gs k y hy
      have d0 := (r2.cell (k * 3)).trans hget2.1
      have d1 := (r2.cell (k * 3 + 1)).trans hget2.2.1
      have d2 := (r2.cell (k * 3 + 2)).trans hget2.2.2
      replace hget2 := hide hget2
      replace hy := hide hy
      have f0 := r2.frozen (k * 3)
      have f1 := r2.frozen (k * 3 + 1)
      have f2 := r2.frozen (k * 3 + 2)
      replace hget := hide hget
      replace r0 := hide r0
      replace r1 := hide r1
      replace r2 := hide r2
      replace hT := hide hT
      replace hx := hide hx
      go_wp2
      go_region
      go_wp2
      go_roundw
      case rel =>
        refine ⟨k + 1, gs.set k x, by omega, by simpa using hg7, ?_, ?_, ?_, ?_, ?_, by go_num⟩
        · exact take_set_succ gs fs k x hT.out (by omega) hx.out
        · exact (((r0.out.setOther _ _ (by simp <;> omega)).setOther _ _ (by simp <;> omega)).setOther _ _ (by simp <;> omega)).drew
        · exact (((r1.out.setOther _ _ (by simp <;> omega)).setOther _ _ (by simp <;> omega)).setOther _ _ (by simp <;> omega)).drew
        · have := ((r2.out.setCell (k * 3) (.int .i64 x.n)).setCell (k * 3 + 1) (.int .i64 x.w)).setCell (k * 3 + 2) (.int .u8 x.s)
          rw [rowOf_set gs k x (by omega)] at this
          exact this.drew
        · exact (((hb.setCell (by simp <;> omega) _).setCell (by simp <;> omega) _).setCell (by simp <;> omega) _).drew
      case measure => simp [intOf]; omega
    · have hk7 : k = 7 := by omega
      subst hk7
      have hgf : gs = fs := by rw [List.take_of_length_le (by omega), List.take_of_length_le (by omega)] at hT; exact hT
      subst hgf
      rw [HR.out] at r2
      have hsz : R.toArray.size = 21 := by simpa using hl
      replace r0 := hide r0
      replace r1 := hide r1
      replace r2 := hide r2
      replace hT := hide hT
      have hone : R.toArray.all (·.oneCell') = true := by rw [← HR.out]; exact rowOf_one _
      replace hone := hide hone
      go_wp2_with (first | (refine wpList_load_row rfl 28 _ rfl (w.heap.size + 2) rfl 28 _ (0, 0) _ r2.out Try.underlying28 rfl (by rw [hsz]; kernel_rfl) ?_) | (refine wpList_store_row rfl 28 _ _ rfl (w.heap.size + 1) _ rfl rfl 28 _ r1.out (by rw [hsz]; kernel_rfl) (by rw [hsz]; rfl) hone.out ?_))
      exact ret_row rfl (w.heap.size + 1) 28 R _ rfl (r1.out.setRow R) Try.underlying28 rfl (by rw [hsz]; kernel_rfl) rfl ⟨rfl, below_setRow hb _ (by omega) _⟩
end Go.Proofs.Qxb6601586a.Dt
