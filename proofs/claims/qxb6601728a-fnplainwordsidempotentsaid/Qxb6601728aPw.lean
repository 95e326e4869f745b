/-
  WALKS: plainWords, ZZPlainWords.
-/
import Derived.Test.Qxb6601728aProg
import Derived.WalkKit
import Derived.WalkSpells
import Derived.WalkLawsBesides
import Derived.RegionTactic
import Derived.BigRegion
import Derived.Deep.QuietTactic
import Derived.BigQuiet
import Derived.Deep.Light
namespace Go.Proofs.Qxb6601728a
open Go.RowKit
set_option linter.unusedVariables false
theorem hide {p : Prop} (h : p) : Hid p := h

/-- eight bytes as one word, as the walk spells it -/
def word (d : ByteArray) (h : d.size = 8) : Int :=
  bits BinOp.or IntKind.u64 (bits BinOp.or IntKind.u64 (bits BinOp.or IntKind.u64 (bits BinOp.or IntKind.u64 (bits BinOp.or IntKind.u64 (bits BinOp.or IntKind.u64 (bits BinOp.or IntKind.u64 (IntKind.u64.wrap (d[0]'(by omega)).toNat)
    (IntKind.u64.wrap (IntKind.u64.wrap (d[1]'(by omega)).toNat * 256)))
    (IntKind.u64.wrap (IntKind.u64.wrap (d[2]'(by omega)).toNat * 65536)))
    (IntKind.u64.wrap (IntKind.u64.wrap (d[3]'(by omega)).toNat * 16777216)))
    (IntKind.u64.wrap (IntKind.u64.wrap (d[4]'(by omega)).toNat * 4294967296)))
    (IntKind.u64.wrap (IntKind.u64.wrap (d[5]'(by omega)).toNat * 1099511627776)))
    (IntKind.u64.wrap (IntKind.u64.wrap (d[6]'(by omega)).toNat * 281474976710656)))
    (IntKind.u64.wrap (IntKind.u64.wrap (d[7]'(by omega)).toNat * 72057594037927936))
/-- the test on a word, as the walk spells it: not all of the eight bytes are plain -/
def odd (W : Int) : Bool :=
  (bits BinOp.and IntKind.u64 (bits BinOp.or IntKind.u64 (bits BinOp.or IntKind.u64 (bits BinOp.or IntKind.u64 (IntKind.u64.wrap (W - 2314885530818453536))
    (IntKind.u64.wrap (bits BinOp.xor IntKind.u64 W 2459565876494606882 - 72340172838076673)))
    (IntKind.u64.wrap (bits BinOp.xor IntKind.u64 W 6655295901103053916 - 72340172838076673))) W) 9259542123273814144) != 0
theorem ext8 (s : ByteArray) (j : Nat) (h : j + 8 ≤ s.size) : (s.extract j (j + 8)).size = 8 := by rw [ByteArray.size_extract]; omega
/-- the walk stops at place j -/
def Stop (s : ByteArray) (j : Nat) : Prop := ∀ h : j + 8 ≤ s.size, odd (word (s.extract j (j + 8)) (ext8 s j h)) = true

/-- what the call leaves -/
def PwEnd (s : ByteArray) (pos b : Nat) (w w' : World) : Prop := ∃ q n : Nat, pos ≤ q ∧ (q - pos) % 8 = 0 ∧ q ≤ 9223372036854775807 ∧ Stop s q ∧ (Stop s pos → q = pos) ∧ w' = (w.setCell ⟨b, 1, none⟩ (.int .i64 q)).drewN n

set_option maxRecDepth 100000 in
set_option maxHeartbeats 4000000 in
theorem pw_run (s : ByteArray) (pos : Nat) (hs : s.size ≤ 1048576) (hp : pos ≤ 9223372036854775807) (b : Nat) (w : World) (c0 : w.cell? ⟨b, 0, none⟩ = some (.string s)) (c1 : w.cell? ⟨b, 1, none⟩ = some (.int .i64 pos)) (f1 : w.frozen? ⟨b, 1, none⟩ = false) :
    Calls Try.prog 28 #[.pointer (some ⟨b, 0, none⟩)] w fun e w' => e = .returned (.tuple #[]) ∧ PwEnd s pos b w w' := by
  go_enter Try.func28, Try.ntmps28
  go_wp2
  go_quiet (fail)
  go_wp2
  go_loopw [3] (fun v3 wr => ∃ j n : Nat, v3 = .int .i64 j ∧ pos ≤ j ∧ (j - pos) % 8 = 0 ∧ (j = pos ∨ j ≤ s.size) ∧ (Stop s pos → j = pos) ∧ wr = w.drewN n) (fun v3 _ => s.size - (intOf v3).toNat)
  case atStart => exact ⟨pos, _, rfl, by omega, by simp, .inl rfl, fun _ => rfl, rfl⟩
  case round =>
    obtain ⟨j, n, rfl, hj, hj8, hj2, HS, rfl⟩ := hrel
    replace HS := hide HS
    replace hj8 := hide hj8
    by_cases h8 : j + 8 ≤ s.size
    · have t1 : (8 : Int) ≤ (s.size : Int) - (j : Int) := by omega
      have hl := ext8 s j h8
      cases ho : odd (word (s.extract j (j + 8)) hl)
      · have HN : Hid (¬ Stop s j) := by
          unfold Hid Stop
          intro h
          have := h h8
          rw [ho] at this
          cases this
        unfold odd word at ho
        go_wp2
        go_quiet (fail)
        go_wp2
        go_roundw
        case rel =>
          go_light
          refine ⟨j + 8, _, by go_num, by omega, by have := hj8.out; omega, .inr h8, fun h => ?_, rfl⟩
          have e := HS.out h
          rw [e] at HN
          exact absurd h HN.out
        case measure => simp [intOf]; omega
      · have HN : Hid (Stop s j) := fun h => ho
        unfold odd word at ho
        go_wp2
        go_quiet (fail)
        go_wp2
        go_end0
        exact ⟨rfl, ⟨j, _, hj, hj8.out, by omega, HN.out, HS.out, rfl⟩⟩
    · have t1 : ¬ (8 : Int) ≤ (s.size : Int) - (j : Int) := by omega
      have HN : Hid (Stop s j) := fun h => absurd h h8
      go_wp2
      go_end0
      exact ⟨rfl, ⟨j, _, hj, hj8.out, by omega, HN.out, HS.out, rfl⟩⟩
end Go.Proofs.Qxb6601728a
