/-
  zzDateTimeModel: the parts, one after the other: what the second loop keeps.
-/
import Derived.Test.Qxb6601586aDtV
namespace Go.Proofs.Qxb6601586a.Dt
open Go.RowKit
set_option linter.unusedVariables false

theorem gf_eq (L : List UInt8) (k : Nat) (h : wd L k ≤ 6) : gf L k = ⟨dec ((L.drop (st L k)).take (endOf L k - st L k)), wd L k, 0⟩ := by
  rw [← wd_eq]
  unfold gf
  rw [fld_eq]
  unfold wd at *
  rw [if_neg (by omega), show min (Num.nd (L.drop (st L k))) 6 = Num.nd (L.drop (st L k)) from by omega]
theorem stage_ok (L : List UInt8) (m k : Nat) (fs : List Fld) (hC : Cuts L m) (hk : k < m) (hk6 : k < 6) (hw : 1 ≤ wd L k) (hw2 : wd L k ≤ wid k)
    (hd : k = 0 ∨ ∃ c, L[endOf L (k - 1)]? = some c ∧ delim c k = true) : go (6 - k) k fs (rest L k) = go (6 - (k + 1)) (k + 1) (fs.set k (gf L k)) (rest L (k + 1)) := by
  cases k with
  | zero =>
    have e := go_first L 5 fs
    rw [if_neg (by omega)] at e
    exact e
  | succ k =>
    rcases hd with h | ⟨c, hc, hd⟩
    · omega
    · obtain ⟨c', hc', e⟩ := go_next L (6 - (k + 2)) k fs (hC.lt k (by omega))
      simp only [Nat.add_sub_cancel] at hc
      rw [hc] at hc'
      simp at hc'
      subst hc'
      rw [hd, if_pos rfl, if_neg (by omega), show 6 - (k + 2) + 1 = 6 - (k + 1) from by omega] at e
      exact e
theorem stage_bad_w (L : List UInt8) (m k : Nat) (fs : List Fld) (hC : Cuts L m) (hk : k < m) (hk6 : k < 6) (hw : wd L k = 0 ∨ wid k < wd L k) : (go (6 - k) k fs (rest L k)).2 = false := by
  cases k with
  | zero =>
    have e := go_first L 5 fs
    rw [if_pos hw] at e
    exact congrArg Prod.snd e
  | succ k =>
    obtain ⟨c', hc', e⟩ := go_next L (6 - (k + 2)) k fs (hC.lt k (by omega))
    rw [show 6 - (k + 2) + 1 = 6 - (k + 1) from by omega, if_pos hw] at e
    rw [e]
    split <;> rfl
theorem stage_bad_d (L : List UInt8) (m k : Nat) (fs : List Fld) (hC : Cuts L m) (hk : k < m) (hk6 : k < 6) (h0 : 0 < k) (c : UInt8) (hc : L[endOf L (k - 1)]? = some c) (hd : delim c k = false) : (go (6 - k) k fs (rest L k)).2 = false := by
  cases k with
  | zero => omega
  | succ k =>
    obtain ⟨c', hc', e⟩ := go_next L (6 - (k + 2)) k fs (hC.lt k (by omega))
    simp only [Nat.add_sub_cancel] at hc
    rw [hc] at hc'
    simp at hc'
    subst hc'
    rw [hd, show 6 - (k + 2) + 1 = 6 - (k + 1) from by omega] at e
    rw [e]
    rfl
theorem stage_end (L : List UInt8) (m : Nat) (fs : List Fld) (hC : Cuts L m) (h3 : 3 ≤ m) (h6 : m ≤ 6) : go (6 - m) m fs (rest L m) = (fs, true) := by
  by_cases e6 : m = 6
  · subst e6; exact fin_six L fs hC
  · obtain ⟨k, rfl⟩ : ∃ k, m = k + 1 := ⟨m - 1, by omega⟩
    have e := go_done L (6 - (k + 2)) k fs (by have := hC.last; simpa using this)
    rw [show 6 - (k + 2) + 1 = 6 - (k + 1) from by omega] at e
    rw [e, decide_eq_true h3]

/-- what the second loop keeps -/
structure Inv3 (L : List UInt8) (w : World) (g m : Nat) (gs ge se : List Nat) (wr : World) (k : Nat) (fs : List Fld) : Prop where
  km : k ≤ m
  k6 : k ≤ 6
  l7 : fs.length = 7
  hgo : go 6 0 zero7 (rest L 0) = go (6 - k) k fs (rest L k)
  i2 : Inv2 L w wr m gs ge se
  rf : Row wr g (rowOf fs) 33
theorem Inv2.alloc {L : List UInt8} {w wr : World} {m : Nat} {gs ge se : List Nat} (h : Inv2 L w wr m gs ge se) (o : Obj) : Inv2 L w (wr.alloc o) m gs ge se :=
  { h with r0 := h.r0.alloc o h.r0.lt, r1 := h.r1.alloc o h.r1.lt, r2 := h.r2.alloc o h.r2.lt, r3 := h.r3.alloc o h.r3.lt, b := h.b.alloc (Nat.le_of_lt h.r0.lt) o }
theorem Inv2.drew {L : List UInt8} {w wr : World} {m : Nat} {gs ge se : List Nat} (h : Inv2 L w wr m gs ge se) : Inv2 L w wr.drew m gs ge se :=
  { h with r0 := h.r0.drew, r1 := h.r1.drew, r2 := h.r2.drew, r3 := h.r3.drew, b := h.b.drew }
theorem Inv2.set3 {L : List UInt8} {w wr : World} {m : Nat} {gs ge se : List Nat} (h : Inv2 L w wr m gs ge se) (g k : Nat) (hg : w.heap.size + 3 < g) (a b c : Value) :
    Inv2 L w (((wr.setCell ⟨g, k * 3, none⟩ a).setCell ⟨g, k * 3 + 1, none⟩ b).setCell ⟨g, k * 3 + 2, none⟩ c) m gs ge se :=
  { h with r0 := row_other3 h.r0 (by omega) a b c, r1 := row_other3 h.r1 (by omega) a b c, r2 := row_other3 h.r2 (by omega) a b c, r3 := row_other3 h.r3 (by omega) a b c, b := below3 h.b g k (by omega) a b c }
theorem Inv3.start {L : List UInt8} {w wr : World} {m : Nat} {gs ge se : List Nat} (h : Inv2 L w wr m gs ge se) (g : Nat) (hg : g = wr.heap.size) : Inv3 L w g m gs ge se (wr.alloc (.cells (rowOf zero7).toArray 33)) 0 zero7 :=
  ⟨Nat.zero_le _, Nat.zero_le _, rfl, rfl, h.alloc _, Row.new _ _ _ _ hg⟩
theorem Inv3.next {L : List UInt8} {w wr : World} {g m k : Nat} {gs ge se : List Nat} {fs : List Fld} (h : Inv3 L w g m gs ge se wr k fs) (hk : k < m) (hk6 : k < 6) (hg : w.heap.size + 3 < g)
    (hw : 1 ≤ wd L k) (hw2 : wd L k ≤ wid k) (hd : k = 0 ∨ ∃ c, L[endOf L (k - 1)]? = some c ∧ delim c k = true) (hw6 : wd L k ≤ 6) :
    Inv3 L w g m gs ge se (((wr.setCell ⟨g, k * 3, none⟩ (.int .i64 (dec ((L.drop (st L k)).take (endOf L k - st L k))))).setCell ⟨g, k * 3 + 1, none⟩ (.int .i64 ((endOf L k : Int) - st L k))).setCell ⟨g, k * 3 + 2, none⟩ (.int .u8 0)) (k + 1) (fs.set k (gf L k)) := by
  have hl := h.l7
  have e : ((endOf L k : Int) - st L k) = (wd L k : Nat) := by rw [wd_eq]; have := st_le L k; omega
  obtain ⟨_, _, _, _, RS⟩ := row_store h.rf (k := k) (by omega) (gf L k)
  refine ⟨by omega, by omega, by simp [hl], ?_, h.i2.set3 g k hg _ _ _, ?_⟩
  · rw [h.hgo]; exact stage_ok L m k fs h.i2.c hk hk6 hw hw2 hd
  · rw [e]
    rw [gf_eq L k hw6] at RS ⊢
    exact RS
theorem Inv3.drew {L : List UInt8} {w wr : World} {g m k : Nat} {gs ge se : List Nat} {fs : List Fld} (h : Inv3 L w g m gs ge se wr k fs) : Inv3 L w g m gs ge se wr.drew k fs :=
  { h with i2 := h.i2.drew, rf := h.rf.drew }
theorem below_drewN {B : Nat} {a w : World} (h : Below B a w) (n : Nat) : Below B a (w.drewN n) :=
  h.trans ⟨rfl, rfl, rfl, Nat.le_refl _, fun k hk => rfl⟩
theorem Inv2.drewN {L : List UInt8} {w wr : World} {m : Nat} {gs ge se : List Nat} (h : Inv2 L w wr m gs ge se) (n : Nat) : Inv2 L w (wr.drewN n) m gs ge se :=
  { h with r0 := h.r0.drewN n, r1 := h.r1.drewN n, r2 := h.r2.drewN n, r3 := h.r3.drewN n, b := below_drewN h.b n }
theorem Inv3.drewN {L : List UInt8} {w wr : World} {g m k : Nat} {gs ge se : List Nat} {fs : List Fld} (h : Inv3 L w g m gs ge se wr k fs) (n : Nat) : Inv3 L w g m gs ge se (wr.drewN n) k fs :=
  { h with i2 := h.i2.drewN n, rf := h.rf.drewN n }
theorem cell3 (w : World) (g k b j : Nat) (x y z : Value) (h : b ≠ g) : (((w.setCell ⟨g, k * 3, none⟩ x).setCell ⟨g, k * 3 + 1, none⟩ y).setCell ⟨g, k * 3 + 2, none⟩ z).cell? ⟨b, j, none⟩ = w.cell? ⟨b, j, none⟩ := by
  have hne : ∀ o, (⟨g, o, none⟩ : Addr) ≠ ⟨b, j, none⟩ := fun o e => h (congrArg Addr.block e).symm
  rw [World.cell?_setCell_other _ _ _ _ (hne _), World.cell?_setCell_other _ _ _ _ (hne _), World.cell?_setCell_other _ _ _ _ (hne _)]
theorem cell_drewN (w : World) (n : Nat) (a : Addr) : (w.drewN n).cell? a = w.cell? a := rfl
theorem delim_three (c : UInt8) : delim c 3 = (c.toNat == 32 || c.toNat == 84) := rfl
theorem delim_else (c : UInt8) (k : Nat) (h : k ≠ 3) : delim c k = punct c := by unfold delim; rw [if_neg h]
end Go.Proofs.Qxb6601586a.Dt
