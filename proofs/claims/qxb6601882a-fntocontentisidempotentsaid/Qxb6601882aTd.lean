/-
  WALKS: skipToBreak, breakLine.
-/
import Derived.Test.Qxb6601882aTc
namespace Go.Proofs.Qxb6601882a
open Go.RowKit
set_option linter.unusedVariables false

theorem at_byte (L : List UInt8) (j : Nat) : at' L j < 256 := by
  by_cases h : j < L.length
  · rw [at_lt L j h]; exact UInt8.toNat_lt _
  · rw [at_ge L j (by omega)]; omega
theorem br_end (L : List UInt8) : isBr (at' L L.length) = true := by rw [at_ge L _ (Nat.le_refl _)]; rfl
/-- the text's slice -/
def TS (g n c : Nat) : Value := .slice (some ⟨g, 0, none⟩) n c
def SkipEnd (L : List UInt8) (g c p : Nat) (l s : Int) (w w' : World) : Prop :=
  ∃ q n : Nat, p ≤ q ∧ q ≤ L.length ∧ isBr (at' L q) = true ∧ w' = (w.alloc (PB (.slice (some ⟨g, 0, none⟩) L.length c) q l s)).drewN n
theorem mcell (w : World) (T : Value) (p l s : Int) (n : Nat) : (((w.alloc (PB T p l s)).drewN n).cell? ⟨w.heap.size, 1, none⟩).getD undef = .int .i64 p := by
  rw [World.cell?_drewN]
  unfold PB
  rw [World.cell?_alloc_at _ _ _ _ rfl]; rfl

theorem set1 (w : World) (T : Value) (p l s : Int) (n : Nat) (x : Int) : ((w.alloc (PB T p l s)).drewN n).setCell ⟨w.heap.size, 1, none⟩ (.int .i64 x) = (w.alloc (PB T x l s)).drewN n := by
  have : ((w.alloc (PB T p l s)).drewN n).setCell ⟨w.heap.size, 1, none⟩ (.int .i64 x) = ((w.alloc (PB T p l s)).setCell ⟨w.heap.size, 1, none⟩ (.int .i64 x)).drewN n := rfl
  rw [this]
  unfold PB
  rw [World.setCell_alloc_at _ _ _ _ _ rfl]
  rfl
theorem set2 (w : World) (T : Value) (p l s : Int) (n : Nat) (x : Int) : ((w.alloc (PB T p l s)).drewN n).setCell ⟨w.heap.size, 2, none⟩ (.int .i64 x) = (w.alloc (PB T p x s)).drewN n := by
  have : ((w.alloc (PB T p l s)).drewN n).setCell ⟨w.heap.size, 2, none⟩ (.int .i64 x) = ((w.alloc (PB T p l s)).setCell ⟨w.heap.size, 2, none⟩ (.int .i64 x)).drewN n := rfl
  rw [this]
  unfold PB
  rw [World.setCell_alloc_at _ _ _ _ _ rfl]
  rfl
theorem set3 (w : World) (T : Value) (p l s : Int) (n : Nat) (x : Int) : ((w.alloc (PB T p l s)).drewN n).setCell ⟨w.heap.size, 3, none⟩ (.int .i64 x) = (w.alloc (PB T p l x)).drewN n := by
  have : ((w.alloc (PB T p l s)).drewN n).setCell ⟨w.heap.size, 3, none⟩ (.int .i64 x) = ((w.alloc (PB T p l s)).setCell ⟨w.heap.size, 3, none⟩ (.int .i64 x)).drewN n := rfl
  rw [this]
  unfold PB
  rw [World.setCell_alloc_at _ _ _ _ _ rfl]
  rfl

set_option maxRecDepth 100000 in
set_option maxHeartbeats 2000000 in
theorem skip_any (L : List UInt8) (g c p m : Nat) (l s : Int) (hl : L.length ≤ 1048576) (hp : p ≤ L.length) (w : World) (hT : Txt w g L) :
    Calls Try.prog 32 #[.pointer (some ⟨w.heap.size, 0, none⟩)] ((w.alloc (PB (.slice (some ⟨g, 0, none⟩) L.length c) p l s)).drewN m) fun e w' => e = .returned (.tuple #[]) ∧ SkipEnd L g c p l s w w' := by
  have HP := hide (fun q m hq => peek_any L g c q m l s hl hq w hT)
  go_enter Try.func32, Try.ntmps32
  go_wp2_with fail
  go_loopw [2] (fun v2 wr => ∃ q n : Nat, p ≤ q ∧ q ≤ L.length ∧ wr = (w.alloc (PB (.slice (some ⟨g, 0, none⟩) L.length c) q l s)).drewN n) (fun _ wr => L.length - (intOf ((wr.cell? ⟨w.heap.size, 1, none⟩).getD undef)).toNat)
  case atStart => exact ⟨p, m, Nat.le_refl _, hp, rfl⟩
  case round =>
    obtain ⟨q, n, h1, h2, rfl⟩ := hrel
    have hby := at_byte L q
    cases hb : isBr (at' L q)
    · have hlt : q < L.length := by
        by_cases h : q < L.length
        · exact h
        · have : q = L.length := by omega
          rw [this, br_end] at hb
          cases hb
      go_wp2_with fail
      refine (HP.out q n h2).mono ?_
      rintro e w' ⟨rfl, n', rfl⟩
      go_wp2_with fail
      refine (isBreak_any _ hby _).mono ?_
      rintro e w' ⟨rfl, rfl⟩
      unfold PB
      go_wp2
      go_roundw
      case rel =>
        go_light
        exact ⟨q + 1, n', by omega, by omega, set1 w _ q l s n' ((q : Int) + 1)⟩
      case measure =>
        have e1 := mcell w (.slice (some ⟨g, 0, none⟩) L.length c) ((q : Int) + 1) l s n'
        have e2 := mcell w (.slice (some ⟨g, 0, none⟩) L.length c) q l s n
        rw [← set1 w _ q l s n' ((q : Int) + 1)] at e1
        unfold PB at e1
        rw [e1, e2]
        simp [intOf]
        omega
    · have HB := hide hb
      go_wp2_with fail
      refine (HP.out q n h2).mono ?_
      rintro e w' ⟨rfl, n', rfl⟩
      go_wp2_with fail
      refine (isBreak_any _ hby _).mono ?_
      rintro e w' ⟨rfl, rfl⟩
      go_wp2
      go_end0
      exact ⟨rfl, q, n', h1, h2, HB.out, rfl⟩

def BreakEnd (L : List UInt8) (g c q : Nat) (l : Int) (w w' : World) : Prop :=
  ∃ q' n : Nat, q < q' ∧ q' ≤ L.length ∧ w' = (w.alloc (PB (.slice (some ⟨g, 0, none⟩) L.length c) q' (wrap64 (l + 1)) q')).drewN n

set_option maxRecDepth 100000 in
set_option maxHeartbeats 2000000 in
theorem break_any (L : List UInt8) (g c q m : Nat) (l s : Int) (hl : L.length ≤ 1048576) (hq : q < L.length) (w : World) (hT : Txt w g L) :
    Calls Try.prog 33 #[.pointer (some ⟨w.heap.size, 0, none⟩)] ((w.alloc (PB (.slice (some ⟨g, 0, none⟩) L.length c) q l s)).drewN m) fun e w' => e = .returned (.tuple #[]) ∧ BreakEnd L g c q l w w' := by
  have HP := hide (peek_any L g c q m l s hl (by omega) w hT)
  have HA := hide (fun m => peekAt_any L g c q 1 m l s hl (by omega) (by omega) w hT)
  have S1 := set1 w (.slice (some ⟨g, 0, none⟩) L.length c)
  have S2 := set2 w (.slice (some ⟨g, 0, none⟩) L.length c)
  have S3 := set3 w (.slice (some ⟨g, 0, none⟩) L.length c)
  unfold PB at S1 S2 S3
  by_cases h13 : at' L q = 13
  · have t13 : ((at' L q : Int) == 13) = true := beq_iff_eq.2 (by omega)
    replace h13 := hide h13
    by_cases h10 : at' L (q + 1) = 10
    · have t10 : ((at' L (q + 1) : Int) == 10) = true := beq_iff_eq.2 (by omega)
      have hq1 : q + 1 < L.length := by
        by_cases h : q + 1 < L.length
        · exact h
        · rw [at_ge L _ (by omega)] at h10; omega
      clear h10
      go_enter Try.func33, Try.ntmps33
      go_wp2_with fail
      refine HP.out.mono ?_
      rintro e w' ⟨rfl, n, rfl⟩
      go_wp2_with fail
      refine (HA.out n).mono ?_
      rintro e w' ⟨rfl, n', rfl⟩
      unfold PB
      go_wp2
      go_end0
      exact ⟨rfl, q + 2, n', by omega, by omega, rfl⟩
    · have t10 : ((at' L (q + 1) : Int) == 10) = false := beq_eq_false_iff_ne.2 (by omega)
      clear h10
      go_enter Try.func33, Try.ntmps33
      go_wp2_with fail
      refine HP.out.mono ?_
      rintro e w' ⟨rfl, n, rfl⟩
      go_wp2_with fail
      refine (HA.out n).mono ?_
      rintro e w' ⟨rfl, n', rfl⟩
      unfold PB
      go_wp2
      go_end0
      exact ⟨rfl, q + 1, n', by omega, by omega, rfl⟩
  · have t13 : ((at' L q : Int) == 13) = false := beq_eq_false_iff_ne.2 (by omega)
    clear h13
    go_enter Try.func33, Try.ntmps33
    go_wp2_with fail
    refine HP.out.mono ?_
    rintro e w' ⟨rfl, n, rfl⟩
    unfold PB
    go_wp2
    go_end0
    exact ⟨rfl, q + 1, n, by omega, by omega, rfl⟩
end Go.Proofs.Qxb6601882a
