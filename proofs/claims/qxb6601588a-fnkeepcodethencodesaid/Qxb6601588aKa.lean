/-
  ROWS IN MEMORY; WALKS: cloneU8, cloneI32, cloneF64, hasKey, zzBytes.
-/
import Derived.Test.Qxb6601588aProg
import Derived.WalkKit
import Derived.WalkSpells
import Derived.WalkLawsBesides
import Derived.RegionTactic
import Derived.BigRegion
import Derived.Deep.QuietTactic
import Derived.BigQuiet
import Derived.Deep.Light
import Derived.Deep.OwnRows
import Derived.Lib.SliceRun
import Derived.Laws.Rows
import Derived.Below
namespace Go.Proofs.Qxb6601588a
open Go.RowKit
set_option linter.unusedVariables false
set_option linter.unusedSimpArgs false



theorem hide {p : Prop} (h : p) : Hid p := h

section
variable (P : Program) (w : World) (a : Addr) (m : Mode)
theorem run_store_float (k : FloatKind) (n : Nat) : (store a (.float k n) m).run P w = stored P w a (.float k n) m := run_store P w a _ m rfl
end
attribute [local go_sem] run_store_float
/-- the row of block g -/
def Row (w : World) (g : Nat) (vs : List Value) (t : TypeId) : Prop := w.heap[g]? = some (.cells vs.toArray t (0, 0))
theorem Row.cell {w : World} {g : Nat} {vs : List Value} {t : TypeId} (h : Row w g vs t) (j : Nat) : w.cell? ⟨g, j, none⟩ = vs[j]? := by
  rw [cell_of_row w g j vs.toArray t (0, 0) h]; simp
theorem Row.frozen {w : World} {g : Nat} {vs : List Value} {t : TypeId} (h : Row w g vs t) (j : Nat) : w.frozen? ⟨g, j, none⟩ = false :=
  frozen_of_row w g j vs.toArray t h
theorem Row.setCell {w : World} {g : Nat} {vs : List Value} {t : TypeId} (h : Row w g vs t) (j : Nat) (v : Value) : Row (w.setCell ⟨g, j, none⟩ v) g (vs.set j v) t := by
  unfold Row
  rw [heap_setCell_same w g j vs.toArray t v h]; simp
theorem Row.setOther {w : World} {g : Nat} {vs : List Value} {t : TypeId} (h : Row w g vs t) (a : Addr) (v : Value) (hne : g ≠ a.block) : Row (w.setCell a v) g vs t := by
  unfold Row
  rw [heap_setCell_other w a g v hne]; exact h
theorem Row.alloc {w : World} {g : Nat} {vs : List Value} {t : TypeId} (h : Row w g vs t) (o : Obj) (hg : g < w.heap.size) : Row (w.alloc o) g vs t := by
  unfold Row
  rw [Below.heap_alloc w o g hg]; exact h
theorem Row.drew {w : World} {g : Nat} {vs : List Value} {t : TypeId} (h : Row w g vs t) : Row w.drew g vs t := h
theorem Row.new (w : World) (vs : List Value) (t : TypeId) (g : Nat) (h : g = w.heap.size) : Row (w.alloc (.cells vs.toArray t)) g vs t := by
  subst h; exact heap_alloc_new w _
theorem Row.lt {w : World} {g : Nat} {vs : List Value} {t : TypeId} (h : Row w g vs t) : g < w.heap.size := by
  unfold Row at h
  rw [Array.getElem?_eq_some_iff] at h
  exact h.1
theorem Row.below {w w' : World} {B g : Nat} {vs : List Value} {t : TypeId} (h : Row w g vs t) (hb : Below B w w') (hg : g < B) : Row w' g vs t := by
  unfold Row
  rw [hb.block g hg]; exact h

/-- the copy when the first k cells are written -/
def cp (c : Nat → Value) (z : Value) (n k : Nat) : List Value := (List.range n).map fun j => if j < k then c j else z
theorem cp_len (c : Nat → Value) (z : Value) (n k : Nat) : (cp c z n k).length = n := by simp [cp]
theorem cp_at (c : Nat → Value) (z : Value) (n k j : Nat) (h : j < n) : (cp c z n k)[j]? = some (if j < k then c j else z) := by
  simp [cp, List.getElem?_map, List.getElem?_range h]
theorem cp_set (c : Nat → Value) (z : Value) (n k : Nat) (h : k < n) : (cp c z n k).set k (c k) = cp c z n (k + 1) := by
  apply List.ext_getElem?
  intro t
  by_cases ht : t < n
  · rw [cp_at c z n (k + 1) t ht]
    by_cases e : t = k
    · subst e
      rw [List.getElem?_set_self (by rw [cp_len]; exact h), if_pos (by omega)]
    · rw [List.getElem?_set_ne (fun e' => e e'.symm), cp_at c z n k t ht]
      by_cases c : t < k
      · rw [if_pos c, if_pos (by omega)]
      · rw [if_neg c, if_neg (by omega)]
  · rw [List.getElem?_eq_none (by simp [cp_len]; omega), List.getElem?_eq_none (by rw [cp_len]; omega)]
theorem cp_start (c : Nat → Value) (z : Value) (n : Nat) : madeCells #[z] n = (cp c z n 0).toArray := by
  apply Array.ext
  · rw [size_madeCells]; simp [cp_len]
  · intro i h1 h2
    simp [madeCells, cp, Nat.mod_one]
theorem cp_full (c : Nat → Value) (z : Value) (n : Nat) : cp c z n n = (List.range n).map c := by
  unfold cp
  refine List.map_congr_left fun j hj => ?_
  rw [if_pos (by simpa using hj)]

/-- what came in: the first n cells of a slice -/
def Cells (w : World) (a : Option Addr) (n : Nat) (c : Nat → Value) : Prop := (a = none ∧ n = 0) ∨ ∃ x, a = some x ∧ ∀ i, i < n → w.cell? (x.add i) = some (c i)
/-- what a copy leaves -/
def Cl (w w' : World) (a : Option Addr) (n : Nat) (c : Nat → Value) (t : TypeId) : Prop :=
  Below w.heap.size w w' ∧ (0 < n → ∃ g, w.heap.size ≤ g ∧ a = some ⟨g, 0, none⟩ ∧ Row w' g ((List.range n).map c) t)

theorem info5 : (Try.prog.info? 5).map (fun i => (i.zero, i.size, i.bytes)) = some (some (.int .u8 0), 1, 1) := by kernel_rfl

set_option maxRecDepth 100000 in
set_option maxHeartbeats 2000000 in
theorem cu8_some (z : Nat → Int) (n b off cap : Nat) (hl : n ≤ 1048576) (w : World) (hbw : b < w.heap.size) (hc : ∀ j, j < n → w.cell? ⟨b, off + j, none⟩ = some (.int .u8 (z j))) :
    Calls Try.prog 8 #[.slice (some ⟨b, off, none⟩) n cap] w fun e w' => e = .returned (.slice (some ⟨w.heap.size, 0, none⟩) n n) ∧ w' = w.alloc (.cells (cp (fun j => .int .u8 (z j)) (.int .u8 0) n n).toArray 5) := by
  replace hc := hide hc
  have hnil := fun w => Lib.run_eql_slice_nil (P := Try.prog) w 22 5 (some ⟨b, off, none⟩) n cap 0 0 Try.underlying22
  have hmk := fun w => run_make_row' (P := Try.prog) 22 5 (.int .u8 0) 1 Try.underlying22 info5 rfl .i64 .i64 n (by omega) (by omega) w
  rw [cp_start (fun j => (Value.int .u8 (z j)))] at hmk
  generalize hC : (fun j : Nat => (Value.int .u8 (z j))) = C at *
  have HC : Hid (∀ j, C j = Value.int .u8 (z j)) := fun j => by rw [← hC]
  clear hC
  go_enter Try.func8, Try.ntmps8
  go_wp2
  go_loopw [4] (fun v4 wr => ∃ k : Nat, k ≤ n ∧ v4 = .int .i64 k ∧ wr = w.alloc (.cells (cp C (.int .u8 0) n k).toArray 5)) (fun v4 _ => n - (intOf v4).toNat)
  case atStart => exact ⟨0, by omega, rfl, rfl⟩
  case round =>
    obtain ⟨k, hk, rfl, rfl⟩ := hrel
    clear hnil hmk
    by_cases hlt : k < n
    · have ck := hc.out k hlt
      have hki : (k : Int) < (n : Int) := by omega
      have hk0 : (cp C (.int .u8 0) n k)[k]? = some (.int .u8 0) := by rw [cp_at C _ n k k hlt, if_neg (by omega)]
      have HS := cp_set C (.int .u8 0) n k hlt
      rw [HC.out k] at HS
      replace HS := hide HS
      go_wp2
      go_roundw
      case rel =>
        go_light
        refine ⟨k + 1, by omega, by go_num, ?_⟩
        rw [← HS.out]
      case measure => simp [intOf]; omega
    · have hke : k = n := by omega
      subst hke
      go_wp2
      go_ret
      exact ⟨rfl, rfl⟩
theorem cu8_nil (w : World) : Calls Try.prog 8 #[.slice none 0 0] w fun e w' => e = .returned (.slice none 0 0) ∧ w' = w := by
  have hnil := fun w => Lib.run_eql_slice_nil (P := Try.prog) w 22 5 none 0 0 0 0 Try.underlying22
  go_enter Try.func8, Try.ntmps8
  go_wp2
  go_ret
  exact ⟨rfl, rfl⟩
theorem cu8_empty (x : Addr) (cap : Nat) (w : World) : Calls Try.prog 8 #[.slice (some x) 0 cap] w fun e w' => e = .returned (.slice (some ⟨w.heap.size, 0, none⟩) 0 0) ∧ w' = w.alloc (.cells (cp (fun _ => .int .u8 0) (.int .u8 0) 0 0).toArray 5) := by
  have hnil := fun w => Lib.run_eql_slice_nil (P := Try.prog) w 22 5 (some x) 0 cap 0 0 Try.underlying22
  have hmk := fun w => run_make_row' (P := Try.prog) 22 5 (.int .u8 0) 1 Try.underlying22 info5 rfl .i64 .i64 0 (by omega) (by omega) w
  rw [cp_start (fun _ => .int .u8 0)] at hmk
  have e1 : ((0 : Nat) : Int) = 0 := rfl
  rw [e1] at hmk
  clear e1
  go_enter Try.func8, Try.ntmps8
  go_wp2
  go_loopw [4] (fun v4 wr => v4 = .int .i64 0 ∧ wr = w.alloc (.cells (cp (fun _ => .int .u8 0) (.int .u8 0) 0 0).toArray 5)) (fun _ _ => 0)
  case atStart => exact ⟨rfl, rfl⟩
  case round =>
    obtain ⟨rfl, rfl⟩ := hrel
    go_wp2
    go_ret
    exact ⟨rfl, rfl⟩
/-- a copy, whatever came in -/
theorem cu8_any (z : Nat → Int) (a : Option Addr) (n cap : Nat) (hcap : a = none → cap = 0) (hl : n ≤ 1048576) (w : World) (hc : Cells w a n (fun j => .int .u8 (z j))) :
    Calls Try.prog 8 #[.slice a n cap] w fun e w' => ∃ a', e = .returned (.slice a' n n) ∧ Cl w w' a' n (fun j => .int .u8 (z j)) 5 := by
  rcases hc with ⟨rfl, rfl⟩ | ⟨x, rfl, hc⟩
  · obtain rfl := hcap rfl
    exact (cu8_nil w).mono fun e w' ⟨h1, h2⟩ => ⟨none, h1, by subst h2; exact ⟨Below.refl _ _, fun h => absurd h (by omega)⟩⟩
  · by_cases h0 : 0 < n
    · have hx0 := hc 0 h0
      obtain ⟨b, off, spot⟩ := x
      have hs' : spot = none := World.cell?_spot hx0
      subst hs'
      have hbw : b < w.heap.size := block_lt_of_cell hx0
      have hcell : ∀ j, j < n → w.cell? ⟨b, off + j, none⟩ = some (.int .u8 (z j)) := by
        intro j hj
        have h9 := hc j hj
        simp only [Addr.add] at h9
        by_cases hj0 : j = 0
        · subst hj0; simpa using h9
        · rw [if_neg hj0] at h9; exact h9
      refine (cu8_some z n b off cap hl w hbw hcell).mono fun e w' ⟨h1, h2⟩ => ⟨_, h1, ?_⟩
      subst h2
      refine ⟨(Below.refl _ _).alloc (Nat.le_refl _) _, fun _ => ⟨w.heap.size, Nat.le_refl _, rfl, ?_⟩⟩
      rw [← cp_full _ (.int .u8 0)]
      exact Row.new w _ 5 _ rfl
    · obtain rfl : n = 0 := by omega
      refine (cu8_empty x cap w).mono fun e w' ⟨h1, h2⟩ => ⟨_, h1, ?_⟩
      subst h2
      exact ⟨(Below.refl _ _).alloc (Nat.le_refl _) _, fun h => absurd h (by omega)⟩

theorem info21 : (Try.prog.info? 21).map (fun i => (i.zero, i.size, i.bytes)) = some (some (.int .i32 0), 1, 4) := by kernel_rfl

set_option maxRecDepth 100000 in
set_option maxHeartbeats 2000000 in
theorem ci32_some (z : Nat → Int) (n b off cap : Nat) (hl : n ≤ 1048576) (w : World) (hbw : b < w.heap.size) (hc : ∀ j, j < n → w.cell? ⟨b, off + j, none⟩ = some (.int .i32 (z j))) :
    Calls Try.prog 13 #[.slice (some ⟨b, off, none⟩) n cap] w fun e w' => e = .returned (.slice (some ⟨w.heap.size, 0, none⟩) n n) ∧ w' = w.alloc (.cells (cp (fun j => .int .i32 (z j)) (.int .i32 0) n n).toArray 21) := by
  replace hc := hide hc
  have hnil := fun w => Lib.run_eql_slice_nil (P := Try.prog) w 25 21 (some ⟨b, off, none⟩) n cap 0 0 Try.underlying25
  have hmk := fun w => run_make_row' (P := Try.prog) 25 21 (.int .i32 0) 4 Try.underlying25 info21 rfl .i64 .i64 n (by omega) (by omega) w
  rw [cp_start (fun j => (Value.int .i32 (z j)))] at hmk
  generalize hC : (fun j : Nat => (Value.int .i32 (z j))) = C at *
  have HC : Hid (∀ j, C j = Value.int .i32 (z j)) := fun j => by rw [← hC]
  clear hC
  go_enter Try.func13, Try.ntmps13
  go_wp2
  go_loopw [4] (fun v4 wr => ∃ k : Nat, k ≤ n ∧ v4 = .int .i64 k ∧ wr = w.alloc (.cells (cp C (.int .i32 0) n k).toArray 21)) (fun v4 _ => n - (intOf v4).toNat)
  case atStart => exact ⟨0, by omega, rfl, rfl⟩
  case round =>
    obtain ⟨k, hk, rfl, rfl⟩ := hrel
    clear hnil hmk
    by_cases hlt : k < n
    · have ck := hc.out k hlt
      have hki : (k : Int) < (n : Int) := by omega
      have hk0 : (cp C (.int .i32 0) n k)[k]? = some (.int .i32 0) := by rw [cp_at C _ n k k hlt, if_neg (by omega)]
      have HS := cp_set C (.int .i32 0) n k hlt
      rw [HC.out k] at HS
      replace HS := hide HS
      go_wp2
      go_roundw
      case rel =>
        go_light
        refine ⟨k + 1, by omega, by go_num, ?_⟩
        rw [← HS.out]
      case measure => simp [intOf]; omega
    · have hke : k = n := by omega
      subst hke
      go_wp2
      go_ret
      exact ⟨rfl, rfl⟩
theorem ci32_nil (w : World) : Calls Try.prog 13 #[.slice none 0 0] w fun e w' => e = .returned (.slice none 0 0) ∧ w' = w := by
  have hnil := fun w => Lib.run_eql_slice_nil (P := Try.prog) w 25 21 none 0 0 0 0 Try.underlying25
  go_enter Try.func13, Try.ntmps13
  go_wp2
  go_ret
  exact ⟨rfl, rfl⟩
theorem ci32_empty (x : Addr) (cap : Nat) (w : World) : Calls Try.prog 13 #[.slice (some x) 0 cap] w fun e w' => e = .returned (.slice (some ⟨w.heap.size, 0, none⟩) 0 0) ∧ w' = w.alloc (.cells (cp (fun _ => .int .i32 0) (.int .i32 0) 0 0).toArray 21) := by
  have hnil := fun w => Lib.run_eql_slice_nil (P := Try.prog) w 25 21 (some x) 0 cap 0 0 Try.underlying25
  have hmk := fun w => run_make_row' (P := Try.prog) 25 21 (.int .i32 0) 4 Try.underlying25 info21 rfl .i64 .i64 0 (by omega) (by omega) w
  rw [cp_start (fun _ => .int .i32 0)] at hmk
  have e1 : ((0 : Nat) : Int) = 0 := rfl
  rw [e1] at hmk
  clear e1
  go_enter Try.func13, Try.ntmps13
  go_wp2
  go_loopw [4] (fun v4 wr => v4 = .int .i64 0 ∧ wr = w.alloc (.cells (cp (fun _ => .int .i32 0) (.int .i32 0) 0 0).toArray 21)) (fun _ _ => 0)
  case atStart => exact ⟨rfl, rfl⟩
  case round =>
    obtain ⟨rfl, rfl⟩ := hrel
    go_wp2
    go_ret
    exact ⟨rfl, rfl⟩
/-- a copy, whatever came in -/
theorem ci32_any (z : Nat → Int) (a : Option Addr) (n cap : Nat) (hcap : a = none → cap = 0) (hl : n ≤ 1048576) (w : World) (hc : Cells w a n (fun j => .int .i32 (z j))) :
    Calls Try.prog 13 #[.slice a n cap] w fun e w' => ∃ a', e = .returned (.slice a' n n) ∧ Cl w w' a' n (fun j => .int .i32 (z j)) 21 := by
  rcases hc with ⟨rfl, rfl⟩ | ⟨x, rfl, hc⟩
  · obtain rfl := hcap rfl
    exact (ci32_nil w).mono fun e w' ⟨h1, h2⟩ => ⟨none, h1, by subst h2; exact ⟨Below.refl _ _, fun h => absurd h (by omega)⟩⟩
  · by_cases h0 : 0 < n
    · have hx0 := hc 0 h0
      obtain ⟨b, off, spot⟩ := x
      have hs' : spot = none := World.cell?_spot hx0
      subst hs'
      have hbw : b < w.heap.size := block_lt_of_cell hx0
      have hcell : ∀ j, j < n → w.cell? ⟨b, off + j, none⟩ = some (.int .i32 (z j)) := by
        intro j hj
        have h9 := hc j hj
        simp only [Addr.add] at h9
        by_cases hj0 : j = 0
        · subst hj0; simpa using h9
        · rw [if_neg hj0] at h9; exact h9
      refine (ci32_some z n b off cap hl w hbw hcell).mono fun e w' ⟨h1, h2⟩ => ⟨_, h1, ?_⟩
      subst h2
      refine ⟨(Below.refl _ _).alloc (Nat.le_refl _) _, fun _ => ⟨w.heap.size, Nat.le_refl _, rfl, ?_⟩⟩
      rw [← cp_full _ (.int .i32 0)]
      exact Row.new w _ 21 _ rfl
    · obtain rfl : n = 0 := by omega
      refine (ci32_empty x cap w).mono fun e w' ⟨h1, h2⟩ => ⟨_, h1, ?_⟩
      subst h2
      exact ⟨(Below.refl _ _).alloc (Nat.le_refl _) _, fun h => absurd h (by omega)⟩

theorem info27 : (Try.prog.info? 27).map (fun i => (i.zero, i.size, i.bytes)) = some (some (.float .f64 0), 1, 8) := by kernel_rfl

set_option maxRecDepth 100000 in
set_option maxHeartbeats 2000000 in
theorem cf64_some (z : Nat → Nat) (n b off cap : Nat) (hl : n ≤ 1048576) (w : World) (hbw : b < w.heap.size) (hc : ∀ j, j < n → w.cell? ⟨b, off + j, none⟩ = some (.float .f64 (z j))) :
    Calls Try.prog 14 #[.slice (some ⟨b, off, none⟩) n cap] w fun e w' => e = .returned (.slice (some ⟨w.heap.size, 0, none⟩) n n) ∧ w' = w.alloc (.cells (cp (fun j => .float .f64 (z j)) (.float .f64 0) n n).toArray 27) := by
  replace hc := hide hc
  have hnil := fun w => Lib.run_eql_slice_nil (P := Try.prog) w 26 27 (some ⟨b, off, none⟩) n cap 0 0 Try.underlying26
  have hmk := fun w => run_make_row' (P := Try.prog) 26 27 (.float .f64 0) 8 Try.underlying26 info27 rfl .i64 .i64 n (by omega) (by omega) w
  rw [cp_start (fun j => (Value.float .f64 (z j)))] at hmk
  generalize hC : (fun j : Nat => (Value.float .f64 (z j))) = C at *
  have HC : Hid (∀ j, C j = Value.float .f64 (z j)) := fun j => by rw [← hC]
  clear hC
  go_enter Try.func14, Try.ntmps14
  go_wp2
  go_loopw [4] (fun v4 wr => ∃ k : Nat, k ≤ n ∧ v4 = .int .i64 k ∧ wr = w.alloc (.cells (cp C (.float .f64 0) n k).toArray 27)) (fun v4 _ => n - (intOf v4).toNat)
  case atStart => exact ⟨0, by omega, rfl, rfl⟩
  case round =>
    obtain ⟨k, hk, rfl, rfl⟩ := hrel
    clear hnil hmk
    by_cases hlt : k < n
    · have ck := hc.out k hlt
      have hki : (k : Int) < (n : Int) := by omega
      have hk0 : (cp C (.float .f64 0) n k)[k]? = some (.float .f64 0) := by rw [cp_at C _ n k k hlt, if_neg (by omega)]
      have HS := cp_set C (.float .f64 0) n k hlt
      rw [HC.out k] at HS
      replace HS := hide HS
      go_wp2
      go_roundw
      case rel =>
        go_light
        refine ⟨k + 1, by omega, by go_num, ?_⟩
        rw [← HS.out]
      case measure => simp [intOf]; omega
    · have hke : k = n := by omega
      subst hke
      go_wp2
      go_ret
      exact ⟨rfl, rfl⟩
theorem cf64_nil (w : World) : Calls Try.prog 14 #[.slice none 0 0] w fun e w' => e = .returned (.slice none 0 0) ∧ w' = w := by
  have hnil := fun w => Lib.run_eql_slice_nil (P := Try.prog) w 26 27 none 0 0 0 0 Try.underlying26
  go_enter Try.func14, Try.ntmps14
  go_wp2
  go_ret
  exact ⟨rfl, rfl⟩
theorem cf64_empty (x : Addr) (cap : Nat) (w : World) : Calls Try.prog 14 #[.slice (some x) 0 cap] w fun e w' => e = .returned (.slice (some ⟨w.heap.size, 0, none⟩) 0 0) ∧ w' = w.alloc (.cells (cp (fun _ => .float .f64 0) (.float .f64 0) 0 0).toArray 27) := by
  have hnil := fun w => Lib.run_eql_slice_nil (P := Try.prog) w 26 27 (some x) 0 cap 0 0 Try.underlying26
  have hmk := fun w => run_make_row' (P := Try.prog) 26 27 (.float .f64 0) 8 Try.underlying26 info27 rfl .i64 .i64 0 (by omega) (by omega) w
  rw [cp_start (fun _ => .float .f64 0)] at hmk
  have e1 : ((0 : Nat) : Int) = 0 := rfl
  rw [e1] at hmk
  clear e1
  go_enter Try.func14, Try.ntmps14
  go_wp2
  go_loopw [4] (fun v4 wr => v4 = .int .i64 0 ∧ wr = w.alloc (.cells (cp (fun _ => .float .f64 0) (.float .f64 0) 0 0).toArray 27)) (fun _ _ => 0)
  case atStart => exact ⟨rfl, rfl⟩
  case round =>
    obtain ⟨rfl, rfl⟩ := hrel
    go_wp2
    go_ret
    exact ⟨rfl, rfl⟩
/-- a copy, whatever came in -/
theorem cf64_any (z : Nat → Nat) (a : Option Addr) (n cap : Nat) (hcap : a = none → cap = 0) (hl : n ≤ 1048576) (w : World) (hc : Cells w a n (fun j => .float .f64 (z j))) :
    Calls Try.prog 14 #[.slice a n cap] w fun e w' => ∃ a', e = .returned (.slice a' n n) ∧ Cl w w' a' n (fun j => .float .f64 (z j)) 27 := by
  rcases hc with ⟨rfl, rfl⟩ | ⟨x, rfl, hc⟩
  · obtain rfl := hcap rfl
    exact (cf64_nil w).mono fun e w' ⟨h1, h2⟩ => ⟨none, h1, by subst h2; exact ⟨Below.refl _ _, fun h => absurd h (by omega)⟩⟩
  · by_cases h0 : 0 < n
    · have hx0 := hc 0 h0
      obtain ⟨b, off, spot⟩ := x
      have hs' : spot = none := World.cell?_spot hx0
      subst hs'
      have hbw : b < w.heap.size := block_lt_of_cell hx0
      have hcell : ∀ j, j < n → w.cell? ⟨b, off + j, none⟩ = some (.float .f64 (z j)) := by
        intro j hj
        have h9 := hc j hj
        simp only [Addr.add] at h9
        by_cases hj0 : j = 0
        · subst hj0; simpa using h9
        · rw [if_neg hj0] at h9; exact h9
      refine (cf64_some z n b off cap hl w hbw hcell).mono fun e w' ⟨h1, h2⟩ => ⟨_, h1, ?_⟩
      subst h2
      refine ⟨(Below.refl _ _).alloc (Nat.le_refl _) _, fun _ => ⟨w.heap.size, Nat.le_refl _, rfl, ?_⟩⟩
      rw [← cp_full _ (.float .f64 0)]
      exact Row.new w _ 27 _ rfl
    · obtain rfl : n = 0 := by omega
      refine (cf64_empty x cap w).mono fun e w' ⟨h1, h2⟩ => ⟨_, h1, ?_⟩
      subst h2
      exact ⟨(Below.refl _ _).alloc (Nat.le_refl _) _, fun h => absurd h (by omega)⟩

end Go.Proofs.Qxb6601588a
