/-
  WALKS: hasKey, zzBytes.
-/
import Derived.Test.Qxb6601588aKa
namespace Go.Proofs.Qxb6601588a
open Go.RowKit
set_option linter.unusedVariables false
set_option linter.unusedSimpArgs false

/-- it answers yes or no -/
def AnsB (e : Ending) : Prop := ∃ r, e = .returned (.bool r)
def BytesPost (w : World) (n1 n2 n3 n4 n5 n6 : Nat) (e : Ending) (w' : World) : Prop := ∃ r, e = .returned (.bool r) ∧ w' = w ∧ (r = true → n1 ≤ 1048576 ∧ n2 ≤ 1048576 ∧ n3 ≤ 1048576 ∧ n4 ≤ 1048576 ∧ n5 ≤ 1048576 ∧ n6 ≤ 1048576)

set_option maxRecDepth 100000 in
set_option maxHeartbeats 1000000 in
theorem hasKey_some (z : Nat → Int) (k : Int) (n b off cap : Nat) (hl : n ≤ 1048576) (w : World) (hc : ∀ j, j < n → w.cell? ⟨b, off + j, none⟩ = some (.int .i32 (z j))) :
    Calls Try.prog 12 #[.slice (some ⟨b, off, none⟩) n cap, .int .i32 k] w fun e w' => AnsB e ∧ w' = w := by
  replace hc := hide hc
  go_enter Try.func12, Try.ntmps12
  go_wp2
  go_loop [5] (fun v5 => ∃ j : Nat, j ≤ n ∧ v5 = .int .i64 j) (fun v5 => n - (intOf v5).toNat)
  case atStart => exact ⟨0, by omega, rfl⟩
  case round =>
    obtain ⟨j, hj, rfl⟩ := hrel
    by_cases hlt : j < n
    · have cj := hc.out j hlt
      have hji : (j : Int) < (n : Int) := by omega
      cases ht : (z j == k)
      · go_wp2
        go_round
        case rel => exact ⟨j + 1, by omega, by go_num⟩
        case measure => simp [intOf]; omega
      · go_wp2
        go_ret
        exact ⟨⟨_, rfl⟩, rfl⟩
    · have hje : j = n := by omega
      subst hje
      go_wp2
      go_ret
      exact ⟨⟨_, rfl⟩, rfl⟩
theorem hasKey_none (a : Option Addr) (k : Int) (cap : Nat) (w : World) :
    Calls Try.prog 12 #[.slice a 0 cap, .int .i32 k] w fun e w' => AnsB e ∧ w' = w := by
  go_enter Try.func12, Try.ntmps12
  go_wp2
  go_loop [5] (fun v5 => v5 = .int .i64 0) (fun _ => 0)
  case atStart => rfl
  case round =>
    subst hrel
    go_wp2
    go_ret
    exact ⟨⟨_, rfl⟩, rfl⟩
theorem cells_at {w : World} {x : Addr} {n : Nat} {c : Nat → Value} (h0 : 0 < n) (hc : ∀ i, i < n → w.cell? (x.add i) = some (c i)) :
    ∃ b off, x = ⟨b, off, none⟩ ∧ b < w.heap.size ∧ ∀ j, j < n → w.cell? ⟨b, off + j, none⟩ = some (c j) := by
  have hx0 := hc 0 h0
  obtain ⟨b, off, spot⟩ := x
  have hs' : spot = none := World.cell?_spot hx0
  subst hs'
  refine ⟨b, off, rfl, block_lt_of_cell hx0, fun j hj => ?_⟩
  have h9 := hc j hj
  simp only [Addr.add] at h9
  by_cases hj0 : j = 0
  · subst hj0; simpa using h9
  · rw [if_neg hj0] at h9; exact h9
theorem hasKey_any (z : Nat → Int) (k : Int) (a : Option Addr) (n cap : Nat) (hl : n ≤ 1048576) (w : World) (hc : Cells w a n (fun j => .int .i32 (z j))) :
    Calls Try.prog 12 #[.slice a n cap, .int .i32 k] w fun e w' => AnsB e ∧ w' = w := by
  rcases hc with ⟨rfl, rfl⟩ | ⟨x, rfl, hc⟩
  · exact hasKey_none _ k cap w
  · by_cases h0 : 0 < n
    · obtain ⟨b, off, rfl, _, hcell⟩ := cells_at h0 hc
      exact hasKey_some z k n b off cap hl w hcell
    · obtain rfl : n = 0 := by omega
      exact hasKey_none _ k cap w

set_option maxRecDepth 100000 in
set_option maxHeartbeats 4000000 in
theorem bytes_any (v0 v7 v8 v9 v10 : Value) (a1 a2 a3 a4 a5 a6 : Option Addr) (n1 n2 n3 n4 n5 n6 c1 c2 c3 c4 c5 c6 : Nat) (w : World)
    (h1 : n1 ≤ 9223372036854775807) (h2 : n2 ≤ 9223372036854775807) (h3 : n3 ≤ 9223372036854775807) (h4 : n4 ≤ 9223372036854775807) (h5 : n5 ≤ 9223372036854775807) (h6 : n6 ≤ 9223372036854775807) :
    Calls Try.prog 11 #[v0, .slice a1 n1 c1, .slice a2 n2 c2, .slice a3 n3 c3, .slice a4 n4 c4, .slice a5 n5 c5, .slice a6 n6 c6, v7, v8, v9, v10] w
      (BytesPost w n1 n2 n3 n4 n5 n6) := by
  go_enter Try.func11, Try.ntmps11
  go_wp2
  all_goals
    go_ret
    refine ⟨_, rfl, rfl, ?_⟩
    first | (intro h; cases h; done) | (intro _; omega)
end Go.Proofs.Qxb6601588a
