/-
  WALKS OVER THE NIL TEXT.
-/
import Derived.Test.Qxb6601882aTh
namespace Go.Proofs.Qxb6601882a
open Go.RowKit
set_option linter.unusedVariables false

def NP (l s : Int) : Obj := PB (.slice none 0 0) 0 l s

set_option maxRecDepth 100000 in
theorem peekAt_nil (m : Nat) (l s : Int) (w : World) :
    Calls Try.prog 37 #[.pointer (some ⟨w.heap.size, 0, none⟩), .int .i64 0] ((w.alloc (PB (.slice none 0 0) 0 l s)).drewN m) fun e w' => e = .returned (.int .u8 0) ∧ ∃ n, w' = (w.alloc (PB (.slice none 0 0) 0 l s)).drewN n := by
  unfold PB
  go_enter Try.func37, Try.ntmps37
  go_wp2
  go_quiet (fail)
  go_wp2
  go_ret
  exact ⟨rfl, _, by rw [World.drewN_drewN]⟩
theorem peek_nil (m : Nat) (l s : Int) (w : World) :
    Calls Try.prog 29 #[.pointer (some ⟨w.heap.size, 0, none⟩)] ((w.alloc (PB (.slice none 0 0) 0 l s)).drewN m) fun e w' => e = .returned (.int .u8 0) ∧ ∃ n, w' = (w.alloc (PB (.slice none 0 0) 0 l s)).drewN n := by
  have HP := hide (peekAt_nil m l s w)
  go_enter Try.func29, Try.ntmps29
  go_wp2_with fail
  refine HP.out.mono ?_
  rintro e w' ⟨rfl, n, rfl⟩
  go_wp2
  go_ret
  exact ⟨rfl, n, rfl⟩
theorem skip_nil (m : Nat) (l s : Int) (w : World) :
    Calls Try.prog 32 #[.pointer (some ⟨w.heap.size, 0, none⟩)] ((w.alloc (PB (.slice none 0 0) 0 l s)).drewN m) fun e w' => e = .returned (.tuple #[]) ∧ ∃ n, w' = (w.alloc (PB (.slice none 0 0) 0 l s)).drewN n := by
  have HP := hide (fun m => peek_nil m l s w)
  go_enter Try.func32, Try.ntmps32
  go_wp2_with fail
  go_loopw [2] (fun v2 wr => ∃ n : Nat, wr = (w.alloc (PB (.slice none 0 0) 0 l s)).drewN n) (fun _ _ => 0)
  case atStart => exact ⟨m, rfl⟩
  case round =>
    obtain ⟨n, rfl⟩ := hrel
    go_wp2_with fail
    refine (HP.out n).mono ?_
    rintro e w' ⟨rfl, n', rfl⟩
    go_wp2_with fail
    refine (isBreak_any 0 (by omega) _).mono ?_
    rintro e w' ⟨rfl, rfl⟩
    have hb : isBr 0 = true := rfl
    go_wp2
    go_end0
    exact ⟨rfl, n', rfl⟩

set_option maxRecDepth 100000 in
set_option maxHeartbeats 1000000 in
theorem toContent_nil (m : Nat) (l s : Int) (w : World) :
    Calls Try.prog 23 #[.pointer (some ⟨w.heap.size, 0, none⟩)] ((w.alloc (PB (.slice none 0 0) 0 l s)).drewN m) fun e w' => e = .returned (.tuple #[]) ∧ ∃ n, w' = (w.alloc (PB (.slice none 0 0) 0 l s)).drewN n := by
  have HP := hide (fun m => peek_nil m l s w)
  have HK := hide (fun m => skip_nil m l s w)
  have S1 := set1 w (.slice none 0 0)
  unfold PB at S1
  go_enter Try.func23, Try.ntmps23
  go_wp2_with fail
  go_loopw [2] (fun v2 wr => ∃ n : Nat, wr = (w.alloc (PB (.slice none 0 0) 0 l s)).drewN n) (fun _ _ => 0)
  case atStart => exact ⟨m, rfl⟩
  case round =>
    obtain ⟨n, rfl⟩ := hrel
    go_wp2_with fail
    go_loopw [3] (fun v3 wr => ∃ n : Nat, wr = (w.alloc (PB (.slice none 0 0) 0 l s)).drewN n) (fun _ _ => 0)
    case atStart => exact ⟨n, rfl⟩
    case round =>
      obtain ⟨n1, rfl⟩ := hrel
      go_wp2_with fail
      refine (HP.out n1).mono ?_
      rintro e w' ⟨rfl, n2, rfl⟩
      unfold PB
      go_wp2_with fail
      go_loop [2] (fun v2 => v2 = .int .i64 0) (fun _ => 0)
      case atStart => rfl
      case round =>
        subst hrel
        go_wp2_with fail
        refine (HK.out n2).mono ?_
        rintro e w' ⟨rfl, n3, rfl⟩
        unfold PB
        go_wp2
        go_quiet (fail)
        go_wp2
        refine bodyPost_ret (results_none rfl _ _ _) rfl ?_
        exact ⟨rfl, _, by first | rfl | (rw [World.drewN_drewN]; rfl)⟩

set_option maxRecDepth 100000 in
set_option maxHeartbeats 1000000 in
theorem zz_nil (l s : Int) (w : World) :
    Calls Try.prog 12 #[.slice none 0 0, .int .i64 0, .int .i64 l, .int .i64 s] w fun e w' => e = .returned (.tuple #[.int .i64 0, .int .i64 l, .int .i64 s]) ∧ Below w.heap.size w w' := by
  have HC := hide (toContent_nil 0 l s w)
  go_enter Try.func12, Try.ntmps12
  go_wp2_with fail
  refine HC.out.mono ?_
  rintro e w1 ⟨rfl, n, rfl⟩
  unfold PB
  go_wp2
  go_quiet (fail)
  go_wp2
  go_ret3
  exact ⟨rfl, below_drewN (below_drewN ((Below.refl w.heap.size w).alloc (Nat.le_refl _) _) _) _⟩
end Go.Proofs.Qxb6601882a
