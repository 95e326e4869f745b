/-
  zzDateTimeModel: the groups in memory.
-/
import Derived.Test.Qxb6601586aDtS
namespace Go.Proofs.Qxb6601586a.Dt
open Go.RowKit
set_option linter.unusedVariables false
set_option linter.unusedSimpArgs false

theorem endOf_ge (L : List UInt8) : ∀ k, k ≤ endOf L k
  | 0 => Nat.zero_le _
  | k + 1 => by have := endOf_ge L k; simp only [endOf]; omega
theorem cuts_unique {L : List UInt8} {m n : Nat} (h : Cuts L m) (g : Cuts L n) : m = n := by
  have h1 := h.pos
  have g1 := g.pos
  rcases Nat.lt_trichotomy m n with hlt | heq | hgt
  · have := g.lt (m - 1) (by omega)
    have := h.last
    omega
  · exact heq
  · have := h.lt (n - 1) (by omega)
    have := g.last
    omega
theorem cuts_exists (L : List UInt8) : ∃ m, Cuts L m := by
  have key : ∀ n, (∃ m, Cuts L m) ∨ ∀ i, i < n → endOf L i < L.length := by
    intro n
    induction n with
    | zero => exact .inr fun i h => by omega
    | succ n ih =>
      rcases ih with h | h
      · exact .inl h
      · by_cases he : endOf L n < L.length
        · refine .inr fun i hi => ?_
          by_cases e : i = n
          · subst e; exact he
          · exact h i (by omega)
        · refine .inl ⟨n + 1, by omega, fun i hi => h i (by omega), ?_⟩
          have hst : st L n ≤ L.length := by
            cases n with
            | zero => exact Nat.zero_le _
            | succ n => have := h n (by omega); simp only [st]; omega
          have := endOf_le L n hst
          simp only [Nat.add_sub_cancel]
          omega
  rcases key (L.length + 1) with h | h
  · exact h
  · have := h L.length (by omega)
    have := endOf_ge L L.length
    omega

def iv (n : Nat) : Value := .int .i64 n
def bv (n : Nat) : Value := .int .u8 n

/-- behind the first loop's rounds: group p is being read, place j comes next -/
structure Inv1 (L : List UInt8) (w wr : World) (p j : Nat) (gs ge se : List Nat) : Prop where
  lg : gs.length = 8
  le : ge.length = 8
  ls : se.length = 8
  jl : j ≤ L.length
  s1 : st L p ≤ j
  s2 : j ≤ endOf L p
  pj : p ≤ j
  lt : ∀ i, i < p → endOf L i < L.length
  hg : ∀ i, i ≤ p → i < 8 → gs[i]? = some (st L i)
  he : ∀ i, i < p → i < 8 → ge[i]? = some (endOf L i)
  hs : ∀ i c, i < p → i + 1 < 8 → L[endOf L i]? = some c → se[i + 1]? = some c.toNat
  r0 : Row wr w.heap.size (rowOf zero7) 33
  r1 : Row wr (w.heap.size + 1) (gs.map iv) 49
  r2 : Row wr (w.heap.size + 2) (ge.map iv) 49
  r3 : Row wr (w.heap.size + 3) (se.map bv) 50
  b : Below w.heap.size w wr

def z8 : List Nat := [0, 0, 0, 0, 0, 0, 0, 0]
theorem Inv1.start (L : List UInt8) (w : World) :
    Inv1 L w ((((w.alloc (.cells (rowOf zero7).toArray 33)).alloc (.cells (z8.map iv).toArray 49)).alloc (.cells (z8.map iv).toArray 49)).alloc (.cells (z8.map bv).toArray 50)) 0 0 z8 z8 z8 := by
  refine ⟨rfl, rfl, rfl, Nat.zero_le _, Nat.zero_le _, Nat.zero_le _, Nat.le_refl _, fun i h => by omega, fun i h _ => ?_, fun i h => by omega, fun i c h => by omega, ?_, ?_, ?_, ?_, ?_⟩
  · obtain rfl : i = 0 := by omega
    rfl
  · exact (((Row.new w (rowOf zero7) 33 _ rfl).alloc _ (by simp)).alloc _ (by simp <;> omega)).alloc _ (by simp <;> omega)
  · exact ((Row.new _ (z8.map iv) 49 _ (by simp)).alloc _ (by simp)).alloc _ (by simp <;> omega)
  · exact (Row.new _ (z8.map iv) 49 _ (by simp)).alloc _ (by simp)
  · exact Row.new _ (z8.map bv) 50 _ (by simp)
  · exact ((((Below.refl _ _).alloc (by simp) _).alloc (by simp) _).alloc (by simp <;> omega) _).alloc (by simp <;> omega) _

theorem Inv1.digit {L : List UInt8} {w wr : World} {p j : Nat} {gs ge se : List Nat} (h : Inv1 L w wr p j gs ge se) (hj : j < L.length) (c : UInt8) (hc : L[j]? = some c) (hd : Num.isD c = true) : Inv1 L w wr p (j + 1) gs ge se := by
  have hne : j ≠ endOf L p := by
    intro e
    obtain ⟨c', hc', hd'⟩ := grp_stop L p (by omega)
    rw [← e, hc] at hc'
    simp at hc'
    subst hc'
    rw [hd] at hd'
    cases hd'
  have := h.s2
  exact { h with jl := by omega, s1 := by have := h.s1; omega, s2 := by omega, pj := by have := h.pj; omega }
theorem Inv1.atCut {L : List UInt8} {w wr : World} {p j : Nat} {gs ge se : List Nat} (h : Inv1 L w wr p j gs ge se) (c : UInt8) (hc : L[j]? = some c) (hd : Num.isD c = false) : j = endOf L p := by
  have := h.s2
  by_cases e : j = endOf L p
  · exact e
  · obtain ⟨c', hc', hd'⟩ := grp_digit L p j h.s1 (by omega)
    rw [hc] at hc'
    simp at hc'
    subst hc'
    rw [hd] at hd'
    cases hd'
theorem set_get (l : List Nat) (i k x : Nat) (h : k < l.length) : (l.set k x)[i]? = if i = k then some x else l[i]? := by
  by_cases e : i = k
  · subst e; rw [if_pos rfl]; simp [h]
  · rw [if_neg e, List.getElem?_set_ne (by omega)]
/-- what a cut leaves, whatever was stored -/
theorem Inv1.cut {L : List UInt8} {w wr : World} {p j : Nat} {gs ge se : List Nat} (h : Inv1 L w wr p j gs ge se) (hj : j < L.length) (c : UInt8) (hc : L[j]? = some c) (hd : Num.isD c = false)
    (wr' : World) (gs' ge' se' : List Nat)
    (eg : gs' = if p + 1 < 8 then gs.set (p + 1) (j + 1) else gs) (ee : ge' = if p < 8 then ge.set p j else ge) (es : se' = if p + 1 < 8 then se.set (p + 1) c.toNat else se)
    (q0 : Row wr' w.heap.size (rowOf zero7) 33) (q1 : Row wr' (w.heap.size + 1) (gs'.map iv) 49) (q2 : Row wr' (w.heap.size + 2) (ge'.map iv) 49) (q3 : Row wr' (w.heap.size + 3) (se'.map bv) 50)
    (hb : Below w.heap.size w wr') : Inv1 L w wr' (p + 1) (j + 1) gs' ge' se' := by
  have e := h.atCut c hc hd
  have hst : st L (p + 1) = j + 1 := by simp only [st]; omega
  refine ⟨?_, ?_, ?_, by omega, by omega, ?_, by have := h.pj; omega, ?_, ?_, ?_, ?_, q0, q1, q2, q3, hb⟩
  · subst eg; split <;> simp [h.lg]
  · subst ee; split <;> simp [h.le]
  · subst es; split <;> simp [h.ls]
  · rw [endOf_eq, hst]; omega
  · intro i hi
    by_cases e2 : i = p
    · subst e2; omega
    · exact h.lt i (by omega)
  · intro i hi h8
    subst eg
    by_cases e2 : i = p + 1
    · subst e2
      rw [if_pos h8, set_get _ _ _ _ (by rw [h.lg]; exact h8), if_pos rfl, hst]
    · have := h.hg i (by omega) h8
      split
      · rw [set_get _ _ _ _ (by rw [h.lg]; omega), if_neg e2]; exact this
      · exact this
  · intro i hi h8
    subst ee
    by_cases e2 : i = p
    · subst e2
      rw [if_pos h8, set_get _ _ _ _ (by rw [h.le]; exact h8), if_pos rfl, e]
    · have := h.he i (by omega) h8
      split
      · rw [set_get _ _ _ _ (by rw [h.le]; omega), if_neg e2]; exact this
      · exact this
  · intro i c' hi h8 hc'
    subst es
    by_cases e2 : i = p
    · subst e2
      rw [← e, hc] at hc'
      simp at hc'
      subst hc'
      rw [if_pos h8, set_get _ _ _ _ (by rw [h.ls]; exact h8), if_pos rfl]
    · have := h.hs i c' (by omega) h8 hc'
      split
      · rw [set_get _ _ _ _ (by rw [h.ls]; omega), if_neg (by omega)]; exact this
      · exact this

/-- behind the first loop and its last store: m groups -/
structure Inv2 (L : List UInt8) (w wr : World) (m : Nat) (gs ge se : List Nat) : Prop where
  c : Cuts L m
  hg : ∀ i, i < m → i < 8 → gs[i]? = some (st L i)
  he : ∀ i, i < m → i < 8 → ge[i]? = some (endOf L i)
  hs : ∀ i c, i + 1 < m → i + 1 < 8 → L[endOf L i]? = some c → se[i + 1]? = some c.toNat
  r0 : Row wr w.heap.size (rowOf zero7) 33
  r1 : Row wr (w.heap.size + 1) (gs.map iv) 49
  r2 : Row wr (w.heap.size + 2) (ge.map iv) 49
  r3 : Row wr (w.heap.size + 3) (se.map bv) 50
  b : Below w.heap.size w wr
theorem Inv1.cuts {L : List UInt8} {w wr : World} {p : Nat} {gs ge se : List Nat} (h : Inv1 L w wr p L.length gs ge se) : Cuts L (p + 1) := by
  refine ⟨by omega, fun i hi => h.lt i (by omega), ?_⟩
  have h1 := h.s2
  have h2 := endOf_le L p h.s1
  simp only [Nat.add_sub_cancel]
  omega
theorem Inv1.done_hi {L : List UInt8} {w wr : World} {p : Nat} {gs ge se : List Nat} (h : Inv1 L w wr p L.length gs ge se) (hp : 8 ≤ p) : Inv2 L w wr (p + 1) gs ge se :=
  ⟨h.cuts, fun i hi h8 => h.hg i (by omega) h8, fun i hi h8 => h.he i (by omega) h8, fun i c hi h8 hc => h.hs i c (by omega) h8 hc, h.r0, h.r1, h.r2, h.r3, h.b⟩
theorem map_set_iv (l : List Nat) (k x : Nat) : (l.map iv).set k (.int .i64 x) = (l.set k x).map iv := by rw [List.map_set]; rfl
theorem map_set_bv (l : List Nat) (k x : Nat) : (l.map bv).set k (.int .u8 x) = (l.set k x).map bv := by rw [List.map_set]; rfl
theorem Inv1.done_lo {L : List UInt8} {w wr : World} {p : Nat} {gs ge se : List Nat} (h : Inv1 L w wr p L.length gs ge se) (hp : p < 8) :
    Inv2 L w (wr.setCell ⟨w.heap.size + 2, p, none⟩ (.int .i64 (L.length : Nat))) (p + 1) gs (ge.set p L.length) se := by
  have hl := h.cuts.last
  simp only [Nat.add_sub_cancel] at hl
  refine ⟨h.cuts, fun i hi h8 => h.hg i (by omega) h8, fun i hi h8 => ?_, fun i c hi h8 hc => h.hs i c (by omega) h8 hc, h.r0.setOther _ _ (by simp), h.r1.setOther _ _ (by simp), ?_, h.r3.setOther _ _ (by simp), h.b.setCell (by simp) _⟩
  · rw [set_get _ _ _ _ (by rw [h.le]; exact hp)]
    by_cases e : i = p
    · subst e; rw [if_pos rfl, hl]
    · rw [if_neg e]; exact h.he i (by omega) h8
  · have := h.r2.setCell p (.int .i64 (L.length : Nat))
    rw [map_set_iv] at this
    exact this
end Go.Proofs.Qxb6601586a.Dt
