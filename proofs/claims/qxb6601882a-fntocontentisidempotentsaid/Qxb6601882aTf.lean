/-
  WALK: ZZToContent.
-/
import Derived.Test.Qxb6601882aTe
namespace Go.Proofs.Qxb6601882a
open Go.RowKit
set_option linter.unusedVariables false

def ZzEnd (L : List UInt8) (p : Nat) (l s : Int) (w : World) (e : Ending) (w' : World) : Prop :=
  ∃ (q : Nat) (l' s' : Int), e = .returned (.tuple #[.int .i64 q, .int .i64 l', .int .i64 s']) ∧ p ≤ q ∧ q ≤ L.length ∧ Fixed L q ∧ (Fixed L p → q = p ∧ l' = l ∧ s' = s) ∧ Below w.heap.size w w'

set_option maxRecDepth 100000 in
set_option maxHeartbeats 2000000 in
theorem zz_any (L : List UInt8) (g c p : Nat) (l s : Int) (hl : L.length ≤ 1048576) (hp : p ≤ L.length) (hz : ∀ j, j < L.length → at' L j ≠ 0) (w : World) (hT : Txt w g L) :
    Calls Try.prog 12 #[.slice (some ⟨g, 0, none⟩) L.length c, .int .i64 p, .int .i64 l, .int .i64 s] w fun e w' => ZzEnd L p l s w e w' := by
  have HC := hide (toContent_any L g c p 0 l s hl hp hz w hT)
  go_enter Try.func12, Try.ntmps12
  go_wp2_with fail
  refine HC.out.mono ?_
  rintro e w1 ⟨rfl, q, n, l', s', h1, h2, h3, h4, rfl⟩
  replace h3 := hide h3
  replace h4 := hide h4
  unfold PB
  go_wp2
  go_quiet (fail)
  go_wp2
  go_ret3
  exact ⟨q, l', s', rfl, h1, h2, h3.out, h4.out, below_drewN (below_drewN ((Below.refl w.heap.size w).alloc (Nat.le_refl _) _) _) _⟩
end Go.Proofs.Qxb6601882a
