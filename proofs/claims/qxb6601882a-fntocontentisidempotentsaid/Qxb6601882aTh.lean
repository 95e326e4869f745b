/-
  WALK: clone.
-/
import Derived.Test.Qxb6601882aTg
import Derived.Deep.OwnRows
import Derived.Lib.SliceRun
namespace Go.Proofs.Qxb6601882a
open Go.RowKit
set_option linter.unusedVariables false

/-- the copy when the first k bytes are written -/
def cl (L : List UInt8) (k : Nat) : List Value := (List.range L.length).map fun j => if j < k then .int .u8 (at' L j) else .int .u8 0
theorem cl_len (L : List UInt8) (k : Nat) : (cl L k).length = L.length := by simp [cl]
theorem cl_at (L : List UInt8) (k j : Nat) (h : j < L.length) : (cl L k)[j]? = some (if j < k then .int .u8 (at' L j) else .int .u8 0) := by
  simp [cl, List.getElem?_map, List.getElem?_range h]
theorem cl_set (L : List UInt8) (k : Nat) (h : k < L.length) : (cl L k).set k (.int .u8 (at' L k)) = cl L (k + 1) := by
  apply List.ext_getElem?
  intro t
  by_cases ht : t < L.length
  · rw [cl_at L (k + 1) t ht]
    by_cases e : t = k
    · subst e
      rw [List.getElem?_set_self (by rw [cl_len]; exact h), if_pos (by omega)]
    · rw [List.getElem?_set_ne (fun e' => e e'.symm), cl_at L k t ht]
      by_cases c : t < k
      · rw [if_pos c, if_pos (by omega)]
      · rw [if_neg c, if_neg (by omega)]
  · rw [List.getElem?_eq_none (by simp [cl_len]; omega), List.getElem?_eq_none (by rw [cl_len]; omega)]
theorem cl_start (L : List UInt8) : madeCells #[.int .u8 0] L.length = (cl L 0).toArray := by
  apply Array.ext
  · rw [size_madeCells]; simp [cl_len]
  · intro i h1 h2
    simp [madeCells, cl, Nat.mod_one]

theorem info5 : (Try.prog.info? 5).map (fun i => (i.zero, i.size, i.bytes)) = some (some (.int .u8 0), 1, 1) := by kernel_rfl

set_option maxRecDepth 100000 in
set_option maxHeartbeats 2000000 in
theorem clone_any (L : List UInt8) (b off cap : Nat) (hl : L.length ≤ 1048576) (w : World) (hbw : b < w.heap.size) (hc : ∀ j, j < L.length → w.cell? ⟨b, off + j, none⟩ = some (.int .u8 (at' L j))) :
    Calls Try.prog 11 #[.slice (some ⟨b, off, none⟩) L.length cap] w fun e w' => e = .returned (.slice (some ⟨w.heap.size, 0, none⟩) L.length L.length) ∧ w' = w.alloc (.cells (cl L L.length).toArray 5) := by
  replace hc := hide hc
  have hnil := fun w => Lib.run_eql_slice_nil (P := Try.prog) w 22 5 (some ⟨b, off, none⟩) L.length cap 0 0 Try.underlying22
  have hmk := fun w => run_make_row' (P := Try.prog) 22 5 (.int .u8 0) 1 Try.underlying22 info5 rfl .i64 .i64 L.length (by omega) (by omega) w
  rw [cl_start] at hmk
  go_enter Try.func11, Try.ntmps11
  go_wp2
  go_loopw [4] (fun v4 wr => ∃ k : Nat, k ≤ L.length ∧ v4 = .int .i64 k ∧ wr = w.alloc (.cells (cl L k).toArray 5)) (fun v4 _ => L.length - (intOf v4).toNat)
  case atStart => exact ⟨0, by omega, rfl, rfl⟩
  case round =>
    obtain ⟨k, hk, rfl, rfl⟩ := hrel
    clear hnil hmk
    by_cases hlt : k < L.length
    · have ck := hc.out k hlt
      have hki : (k : Int) < (L.length : Int) := by omega
      have hk0 : (cl L k)[k]? = some (.int .u8 0) := by rw [cl_at L k k hlt, if_neg (by omega)]
      have HS := hide (cl_set L k hlt)
      go_wp2
      go_roundw
      case rel =>
        go_light
        refine ⟨k + 1, by omega, by go_num, ?_⟩
        rw [← HS.out]
      case measure => simp [intOf]; omega
    · have hke : k = L.length := by omega
      subst hke
      go_wp2
      go_ret
      exact ⟨rfl, rfl⟩
end Go.Proofs.Qxb6601882a
