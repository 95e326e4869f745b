/-
  WALKS: holdsNUL, clone.
-/
import Derived.Test.Qxb6601882aTf
namespace Go.Proofs.Qxb6601882a
open Go.RowKit
set_option linter.unusedVariables false

/-- the bytes of a row of numbers -/
def bytesOf (zs : List Int) (n : Nat) : List UInt8 := (zs.take n).map fun z => UInt8.ofNat z.toNat
theorem bytes_len (zs : List Int) (n : Nat) (h : n ≤ zs.length) : (bytesOf zs n).length = n := by simp [bytesOf]; omega
theorem bytes_at (zs : List Int) (n j : Nat) (h : n ≤ zs.length) (hj : j < n) (hw : ∀ z ∈ zs, 0 ≤ z ∧ z ≤ 255) : (at' (bytesOf zs n) j : Int) = zs.getD j 0 := by
  have hjz : j < zs.length := by omega
  have hz := hw zs[j] (List.getElem_mem hjz)
  rw [at_lt _ _ (by rw [bytes_len zs n h]; exact hj)]
  simp only [bytesOf, List.getElem_map, List.getElem_take]
  rw [UInt8.toNat_ofNat_of_lt' (by show (zs[j]).toNat < 256; omega)]
  simp [List.getD_eq_getElem?_getD, hjz]
  omega

set_option maxRecDepth 100000 in
set_option maxHeartbeats 1000000 in
theorem nul_any (L : List UInt8) (b off cap : Nat) (hl : L.length ≤ 1048576) (w : World) (hc : ∀ j, j < L.length → w.cell? ⟨b, off + j, none⟩ = some (.int .u8 (at' L j))) :
    Calls Try.prog 10 #[.slice (some ⟨b, off, none⟩) L.length cap] w fun e w' => e = .returned (.bool (decide (∃ j, j < L.length ∧ at' L j = 0))) ∧ w' = w := by
  replace hc := hide hc
  go_enter Try.func10, Try.ntmps10
  go_wp2
  go_loop [3] (fun v3 => ∃ k : Nat, k ≤ L.length ∧ (∀ j, j < k → at' L j ≠ 0) ∧ v3 = .int .i64 k) (fun v3 => L.length - (intOf v3).toNat)
  case atStart => exact ⟨0, by omega, fun j h => by omega, rfl⟩
  case round =>
    obtain ⟨k, hk, hn, rfl⟩ := hrel
    replace hn := hide hn
    by_cases hlt : k < L.length
    · have ck := hc.out k hlt
      have hki : (k : Int) < (L.length : Int) := by omega
      by_cases h0 : at' L k = 0
      · have t0 : ((at' L k : Int) == 0) = true := beq_iff_eq.2 (by omega)
        have HE : Hid (decide (∃ j, j < L.length ∧ at' L j = 0) = true) := decide_eq_true ⟨k, hlt, h0⟩
        clear h0
        go_wp2
        go_ret
        exact ⟨by rw [HE.out]; rfl, rfl⟩
      · have t0 : ((at' L k : Int) == 0) = false := beq_eq_false_iff_ne.2 (by omega)
        have HE := hide h0
        clear h0
        go_wp2
        go_round
        case rel =>
          refine ⟨k + 1, by omega, fun j hj => ?_, by go_num⟩
          by_cases e : j = k
          · rw [e]; exact HE.out
          · exact hn.out j (by omega)
        case measure => simp [intOf]; omega
    · have HE : Hid (decide (∃ j, j < L.length ∧ at' L j = 0) = false) := decide_eq_false (by rintro ⟨j, h1, h2⟩; exact hn.out j (by omega) h2)
      go_wp2
      go_ret
      exact ⟨by rw [HE.out]; rfl, rfl⟩
end Go.Proofs.Qxb6601882a
