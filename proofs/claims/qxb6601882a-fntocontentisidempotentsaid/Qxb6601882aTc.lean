/-
  WALKS: peekAt, peek, isBlank, isBreakOrEnd.
-/
import Derived.Test.Qxb6601882aProg
import Derived.WalkKit
import Derived.WalkSpells
import Derived.WalkLawsBesides
import Derived.RegionTactic
import Derived.BigRegion
import Derived.Deep.QuietTactic
import Derived.BigQuiet
import Derived.Deep.Light
namespace Go.Proofs.Qxb6601882a
open Go.RowKit
set_option linter.unusedVariables false
theorem hide {p : Prop} (h : p) : Hid p := h

/-- the byte at place j, 0 behind the end -/
def at' (L : List UInt8) (j : Nat) : Nat := (L[j]?.map UInt8.toNat).getD 0
theorem at_lt (L : List UInt8) (j : Nat) (h : j < L.length) : at' L j = L[j].toNat := by simp [at', h]
theorem at_ge (L : List UInt8) (j : Nat) (h : L.length ≤ j) : at' L j = 0 := by simp [at', h]
/-- the parser's block -/
def PB (T : Value) (p l s : Int) : Obj := .cells #[T, .int .i64 p, .int .i64 l, .int .i64 s, .slice none 0 0, .slice none 0 0, .int .i64 0, .int .i64 0, .bool false, .bool false, .bool false, .map none, .map none] 40
/-- the text lies in block g -/
def Txt (w : World) (g : Nat) (L : List UInt8) : Prop := g < w.heap.size ∧ ∀ j, j < L.length → w.cell? ⟨g, j, none⟩ = some (.int .u8 (at' L j))

set_option maxRecDepth 100000 in
set_option maxHeartbeats 2000000 in
theorem peekAt_any (L : List UInt8) (g c p i m : Nat) (l s : Int) (hl : L.length ≤ 1048576) (hp : p ≤ L.length) (hi : i ≤ 1) (w : World) (hT : Txt w g L) :
    Calls Try.prog 37 #[.pointer (some ⟨w.heap.size, 0, none⟩), .int .i64 i] ((w.alloc (PB (.slice (some ⟨g, 0, none⟩) L.length c) p l s)).drewN m) fun e w' => e = .returned (.int .u8 (at' L (p + i))) ∧ ∃ n, w' = (w.alloc (PB (.slice (some ⟨g, 0, none⟩) L.length c) p l s)).drewN n := by
  obtain ⟨hg, ht⟩ := hT
  unfold PB
  by_cases h : p + i < L.length
  · have hc := ht (p + i) h
    replace ht := hide ht
    have hci : (p : Int) + (i : Int) < (L.length : Int) := by omega
    go_enter Try.func37, Try.ntmps37
    go_wp2
    go_quiet (fail)
    go_wp2
    go_quiet (fail)
    go_wp2
    go_ret
    exact ⟨rfl, _, by rw [World.drewN_drewN, World.drewN_drewN]⟩
  · have hz : Hid (at' L (p + i) = 0) := at_ge L _ (by omega)
    have hci : ¬ (p : Int) + (i : Int) < (L.length : Int) := by omega
    replace ht := hide ht
    go_enter Try.func37, Try.ntmps37
    go_wp2
    go_quiet (fail)
    go_wp2
    go_ret
    exact ⟨by rw [hz.out]; rfl, _, by rw [World.drewN_drewN]⟩

theorem peek_any (L : List UInt8) (g c p m : Nat) (l s : Int) (hl : L.length ≤ 1048576) (hp : p ≤ L.length) (w : World) (hT : Txt w g L) :
    Calls Try.prog 29 #[.pointer (some ⟨w.heap.size, 0, none⟩)] ((w.alloc (PB (.slice (some ⟨g, 0, none⟩) L.length c) p l s)).drewN m) fun e w' => e = .returned (.int .u8 (at' L p)) ∧ ∃ n, w' = (w.alloc (PB (.slice (some ⟨g, 0, none⟩) L.length c) p l s)).drewN n := by
  have HP := hide (peekAt_any L g c p 0 m l s hl hp (by omega) w hT)
  go_enter Try.func29, Try.ntmps29
  go_wp2_with fail
  refine HP.out.mono ?_
  rintro e w' ⟨rfl, n, rfl⟩
  go_wp2
  go_ret
  exact ⟨rfl, n, rfl⟩

/-! ### bytes -/
def isBl (b : Nat) : Bool := b == 32 || b == 9
def isBr (b : Nat) : Bool := b == 10 || b == 13 || b == 0
theorem beqN (b k : Nat) : ((b : Int) == (k : Int)) = (b == k) := by
  rw [Bool.eq_iff_iff, beq_iff_eq, beq_iff_eq]; omega
theorem isBlank_any (b : Nat) (hb : b < 256) (w : World) : Calls Try.prog 30 #[.int .u8 b] w fun e w' => e = .returned (.bool (isBl b)) ∧ w' = w := by
  by_cases h1 : b = 32
  · have t1 : ((b : Int) == 32) = true := beq_iff_eq.2 (by omega)
    have HE : Hid (isBl b = true) := by unfold Hid isBl; simp [h1]
    clear h1
    go_enter Try.func30, Try.ntmps30
    go_wp2
    go_ret
    exact ⟨by rw [HE.out]; rfl, rfl⟩
  · have t1 : ((b : Int) == 32) = false := beq_eq_false_iff_ne.2 (by omega)
    by_cases h2 : b = 9
    · have t2 : ((b : Int) == 9) = true := beq_iff_eq.2 (by omega)
      have HE : Hid (isBl b = true) := by unfold Hid isBl; simp [h2]
      clear h1 h2
      go_enter Try.func30, Try.ntmps30
      go_wp2
      go_ret
      exact ⟨by rw [HE.out]; rfl, rfl⟩
    · have t2 : ((b : Int) == 9) = false := beq_eq_false_iff_ne.2 (by omega)
      have HE : Hid (isBl b = false) := by unfold Hid isBl; simp [h1, h2]
      clear h1 h2
      go_enter Try.func30, Try.ntmps30
      go_wp2
      go_ret
      exact ⟨by rw [HE.out]; rfl, rfl⟩
theorem isBreak_any (b : Nat) (hb : b < 256) (w : World) : Calls Try.prog 31 #[.int .u8 b] w fun e w' => e = .returned (.bool (isBr b)) ∧ w' = w := by
  by_cases h1 : b = 10
  · have t1 : ((b : Int) == 10) = true := beq_iff_eq.2 (by omega)
    have HE : Hid (isBr b = true) := by unfold Hid isBr; simp [h1]
    clear h1
    go_enter Try.func31, Try.ntmps31
    go_wp2
    go_ret
    exact ⟨by rw [HE.out]; rfl, rfl⟩
  have t1 : ((b : Int) == 10) = false := beq_eq_false_iff_ne.2 (by omega)
  by_cases h2 : b = 13
  · have t2 : ((b : Int) == 13) = true := beq_iff_eq.2 (by omega)
    have HE : Hid (isBr b = true) := by unfold Hid isBr; simp [h2]
    clear h1 h2
    go_enter Try.func31, Try.ntmps31
    go_wp2
    go_ret
    exact ⟨by rw [HE.out]; rfl, rfl⟩
  have t2 : ((b : Int) == 13) = false := beq_eq_false_iff_ne.2 (by omega)
  by_cases h3 : b = 0
  · have t3 : ((b : Int) == 0) = true := beq_iff_eq.2 (by omega)
    have HE : Hid (isBr b = true) := by unfold Hid isBr; simp [h3]
    clear h1 h2 h3
    go_enter Try.func31, Try.ntmps31
    go_wp2
    go_ret
    exact ⟨by rw [HE.out]; rfl, rfl⟩
  have t3 : ((b : Int) == 0) = false := beq_eq_false_iff_ne.2 (by omega)
  have HE : Hid (isBr b = false) := by unfold Hid isBr; simp [h1, h2, h3]
  clear h1 h2 h3
  go_enter Try.func31, Try.ntmps31
  go_wp2
  go_ret
  exact ⟨by rw [HE.out]; rfl, rfl⟩
end Go.Proofs.Qxb6601882a
