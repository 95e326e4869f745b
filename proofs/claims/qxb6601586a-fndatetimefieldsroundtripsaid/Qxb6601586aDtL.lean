/-
  WALK: FnDateTimeFieldsRoundTrip, the ways that answer at once.
-/
import Derived.Test.Qxb6601586aDtI
namespace Go.Proofs.Qxb6601586a.Dt
open Go.RowKit
set_option linter.unusedVariables false

set_option maxRecDepth 100000 in
set_option maxHeartbeats 4000000 in
theorem trip_out (y mo d h mi sc us : Int) (p : UInt8) (t : Bool) (w : World)
    (hh : ¬ ((0 ≤ y ∧ y ≤ 9999) ∧ (0 ≤ mo ∧ mo ≤ 99) ∧ (0 ≤ d ∧ d ≤ 99) ∧ (0 ≤ h ∧ h ≤ 99) ∧ (0 ≤ mi ∧ mi ≤ 99) ∧ (0 ≤ sc ∧ sc ≤ 99) ∧ (0 ≤ us ∧ us ≤ 999999) ∧ punct p = true)) :
    Calls Try.prog 7 #[.int .i64 y, .int .i64 mo, .int .i64 d, .int .i64 h, .int .i64 mi, .int .i64 sc, .int .i64 us, .int .u8 p.toNat, .bool t] w fun e w' => e = .returned (.bool true) ∧ w' = w := by
  by_cases a1 : y < 0
  · clear hh; go_enter Try.func7, Try.ntmps7
    go_wp2; go_ret; exact ⟨rfl, rfl⟩
  by_cases b1 : 9999 < y
  · clear hh; go_enter Try.func7, Try.ntmps7
    go_wp2; go_ret; exact ⟨rfl, rfl⟩
  by_cases a2 : mo < 0
  · clear hh; go_enter Try.func7, Try.ntmps7
    go_wp2; go_ret; exact ⟨rfl, rfl⟩
  by_cases b2 : 99 < mo
  · clear hh; go_enter Try.func7, Try.ntmps7
    go_wp2; go_ret; exact ⟨rfl, rfl⟩
  by_cases a3 : d < 0
  · clear hh; go_enter Try.func7, Try.ntmps7
    go_wp2; go_ret; exact ⟨rfl, rfl⟩
  by_cases b3 : 99 < d
  · clear hh; go_enter Try.func7, Try.ntmps7
    go_wp2; go_ret; exact ⟨rfl, rfl⟩
  by_cases a4 : h < 0
  · clear hh; go_enter Try.func7, Try.ntmps7
    go_wp2; go_ret; exact ⟨rfl, rfl⟩
  by_cases b4 : 99 < h
  · clear hh; go_enter Try.func7, Try.ntmps7
    go_wp2; go_ret; exact ⟨rfl, rfl⟩
  by_cases a5 : mi < 0
  · clear hh; go_enter Try.func7, Try.ntmps7
    go_wp2; go_ret; exact ⟨rfl, rfl⟩
  by_cases b5 : 99 < mi
  · clear hh; go_enter Try.func7, Try.ntmps7
    go_wp2; go_ret; exact ⟨rfl, rfl⟩
  by_cases a6 : sc < 0
  · clear hh; go_enter Try.func7, Try.ntmps7
    go_wp2; go_ret; exact ⟨rfl, rfl⟩
  by_cases b6 : 99 < sc
  · clear hh; go_enter Try.func7, Try.ntmps7
    go_wp2; go_ret; exact ⟨rfl, rfl⟩
  by_cases a7 : us < 0
  · clear hh; go_enter Try.func7, Try.ntmps7
    go_wp2; go_ret; exact ⟨rfl, rfl⟩
  by_cases b7 : 999999 < us
  · clear hh; go_enter Try.func7, Try.ntmps7
    go_wp2; go_ret; exact ⟨rfl, rfl⟩
  have hp : punct p = false := by
    cases e : punct p
    · rfl
    · exact absurd ⟨⟨by omega, by omega⟩, ⟨by omega, by omega⟩, ⟨by omega, by omega⟩, ⟨by omega, by omega⟩, ⟨by omega, by omega⟩, ⟨by omega, by omega⟩, ⟨by omega, by omega⟩, e⟩ hh
  clear hh
  go_enter Try.func7, Try.ntmps7
  go_wp2_with (go_at_call 18; refine (zzPunct_any _ _).mono ?_; rintro e w' ⟨rfl, rfl⟩)
  go_ret
  exact ⟨rfl, rfl⟩
end Go.Proofs.Qxb6601586a.Dt
