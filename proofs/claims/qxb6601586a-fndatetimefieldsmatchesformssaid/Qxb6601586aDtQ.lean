/-
  PLAIN: the groups of digits of a text, and what dtf says by them. No Go in sight.
-/
import Derived.Test.Qxb6601586aDt
namespace Go.Proofs.Qxb6601586a.Dt
open Num

/-! ### decimal numbers -/
def dec : List UInt8 → Nat
  | [] => 0
  | c :: r => (c.toNat - 48) * 10 ^ r.length + dec r

theorem nd_le' (l : List UInt8) : nd l ≤ l.length := by
  induction l with
  | nil => simp [nd]
  | cons c r ih =>
    by_cases h : isD c = true
    · simp only [nd, h, if_true, List.length_cons]; omega
    · simp [nd, h]
theorem run_hi (l : List UInt8) : ∀ f : Fld, 6 < f.w → run f l = ⟨f.n, f.w + nd l, f.s⟩ := by
  induction l with
  | nil => intro f h; rfl
  | cons c r ih =>
    intro f h
    by_cases hc : isD c = true
    · simp only [run, nd, hc, if_true]
      have hp : f.push c = ⟨f.n, f.w + 1, f.s⟩ := by
        unfold Fld.push
        rw [if_neg (by omega), if_neg (by omega)]
      rw [hp, ih _ (by simp only; omega)]
      simp only [Fld.mk.injEq, true_and, and_true]
      omega
    · simp [run, nd, hc]
theorem run_eq (l : List UInt8) : ∀ f : Fld, f.w ≤ 6 → run f l = ⟨f.n * 10 ^ (min (nd l) (6 - f.w)) + dec (l.take (min (nd l) (6 - f.w))), f.w + nd l, if 6 < f.w + nd l then (l.getD (6 - f.w) 0).toNat else f.s⟩ := by
  induction l with
  | nil =>
    intro f h
    have e : ¬ 6 < f.w + nd [] := by simp [nd]; omega
    rw [if_neg e]
    simp [run, nd, dec]
  | cons c r ih =>
    intro f h
    by_cases hc : isD c = true
    · simp only [run, nd, hc, if_true]
      by_cases h6 : f.w < 6
      · have hp : f.push c = ⟨f.n * 10 + (c.toNat - 48), f.w + 1, f.s⟩ := by
          unfold Fld.push
          rw [if_pos h6]
        rw [hp, ih _ (by simp only; omega)]
        have e1 : min (nd r + 1) (6 - f.w) = min (nd r) (6 - (f.w + 1)) + 1 := by omega
        have e2 : 6 - f.w = (6 - (f.w + 1)) + 1 := by omega
        have hl := nd_le' r
        simp only [e1, List.take_succ_cons, dec]
        have e3 : (r.take (min (nd r) (6 - (f.w + 1)))).length = min (nd r) (6 - (f.w + 1)) := by
          rw [List.length_take]; omega
        rw [e3]
        simp only [Fld.mk.injEq]
        refine ⟨?_, by omega, ?_⟩
        · rw [Nat.add_mul, Nat.mul_assoc, Nat.pow_succ, Nat.mul_comm 10, Nat.add_assoc]
        · rw [e2]
          simp only [List.getD_cons_succ]
          rw [show f.w + 1 + nd r = f.w + (nd r + 1) from by omega]
      · have e6 : f.w = 6 := by omega
        have hp : f.push c = ⟨f.n, f.w + 1, c.toNat⟩ := by
          unfold Fld.push
          rw [if_neg h6, if_pos e6]
        rw [hp, run_hi r _ (by simp only; omega)]
        simp only [e6]
        rw [if_pos (by omega)]
        simp [dec]
        omega
    · simp only [run, nd, hc, if_false, Bool.false_eq_true, Nat.zero_min, Nat.pow_zero, Nat.mul_one, List.take_zero, dec, Nat.add_zero]
      rw [if_neg (by omega)]
/-- the field that opens a list, by its digits -/
theorem fld_eq (l : List UInt8) : fld l = ⟨dec (l.take (min (nd l) 6)), nd l, if 6 < nd l then (l.getD 6 0).toNat else 0⟩ := by
  unfold fld
  rw [run_eq l fld0 (by simp [fld0])]
  simp [fld0]
theorem dec_lt (l : List UInt8) (h : nd l = l.length) : dec l < 10 ^ l.length := by
  induction l with
  | nil => simp [dec]
  | cons c r ih =>
    by_cases hc : isD c = true
    · have hd : 48 ≤ c.toNat ∧ c.toNat ≤ 57 := by simpa [isD] using hc
      simp only [nd, hc, if_true, List.length_cons] at h
      have := ih (by omega)
      simp only [dec, List.length_cons, Nat.pow_succ]
      have h9 : (c.toNat - 48) * 10 ^ r.length ≤ 9 * 10 ^ r.length := Nat.mul_le_mul_right _ (by omega)
      omega
    · simp [nd, hc] at h

/-! ### digits by places -/
theorem nd_digit (l : List UInt8) : ∀ i, i < nd l → ∃ c, l[i]? = some c ∧ isD c = true := by
  induction l with
  | nil => intro i h; simp [nd] at h
  | cons c r ih =>
    intro i h
    by_cases hc : isD c = true
    · cases i with
      | zero => exact ⟨c, rfl, hc⟩
      | succ i =>
        simp only [nd, hc, if_true] at h
        simpa using ih i (by omega)
    · simp [nd, hc] at h
theorem nd_stop (l : List UInt8) (h : nd l < l.length) : ∃ c, l[nd l]? = some c ∧ isD c = false := by
  induction l with
  | nil => simp [nd] at h
  | cons c r ih =>
    by_cases hc : isD c = true
    · simp only [nd, hc, if_true, List.length_cons] at h
      simp only [nd, hc, if_true]
      simpa using ih (by omega)
    · refine ⟨c, ?_, by simpa using hc⟩
      simp [nd, hc]
theorem nd_take (l : List UInt8) (i : Nat) (h : i ≤ nd l) : nd (l.take i) = i ∧ (l.take i).length = i := by
  induction l generalizing i with
  | nil => simp [nd] at h; subst h; simp [nd]
  | cons c r ih =>
    cases i with
    | zero => simp [nd]
    | succ i =>
      by_cases hc : isD c = true
      · simp only [nd, hc, if_true] at h
        have := ih i (by omega)
        simp only [List.take_succ_cons, nd, hc, if_true, List.length_cons]
        omega
      · simp [nd, hc] at h

/-! ### the groups -/
/-- where group k ends (the first non-digit behind it, or the text's end) -/
def endOf (L : List UInt8) : Nat → Nat
  | 0 => nd L
  | k + 1 => endOf L k + 1 + nd (L.drop (endOf L k + 1))
/-- where group k starts -/
def st (L : List UInt8) : Nat → Nat
  | 0 => 0
  | k + 1 => endOf L k + 1
theorem endOf_eq (L : List UInt8) (k : Nat) : endOf L k = st L k + nd (L.drop (st L k)) := by
  cases k <;> simp [endOf, st]
theorem endOf_le (L : List UInt8) (k : Nat) (h : st L k ≤ L.length) : endOf L k ≤ L.length := by
  rw [endOf_eq]
  have := nd_le' (L.drop (st L k))
  rw [List.length_drop] at this
  omega
theorem st_le (L : List UInt8) (k : Nat) : st L k ≤ endOf L k := by rw [endOf_eq]; omega
/-- a place inside group k holds a digit -/
theorem grp_digit (L : List UInt8) (k j : Nat) (h1 : st L k ≤ j) (h2 : j < endOf L k) : ∃ c, L[j]? = some c ∧ isD c = true := by
  rw [endOf_eq] at h2
  obtain ⟨c, hc, hd⟩ := nd_digit (L.drop (st L k)) (j - st L k) (by omega)
  rw [List.getElem?_drop, show st L k + (j - st L k) = j from by omega] at hc
  exact ⟨c, hc, hd⟩
/-- behind group k, inside the text, stands a non-digit -/
theorem grp_stop (L : List UInt8) (k : Nat) (h : endOf L k < L.length) : ∃ c, L[endOf L k]? = some c ∧ isD c = false := by
  have e := endOf_eq L k
  have hlt : nd (L.drop (st L k)) < (L.drop (st L k)).length := by rw [List.length_drop]; omega
  obtain ⟨c, hc, hd⟩ := nd_stop _ hlt
  rw [List.getElem?_drop, ← e] at hc
  exact ⟨c, hc, hd⟩
/-- the text has m groups -/
structure Cuts (L : List UInt8) (m : Nat) : Prop where
  pos : 1 ≤ m
  lt : ∀ i, i + 1 < m → endOf L i < L.length
  last : endOf L (m - 1) = L.length

/-- what is left when parts 0 .. k-1 are read -/
def rest (L : List UInt8) : Nat → List UInt8
  | 0 => L
  | k + 1 => L.drop (endOf L k)
theorem rest_cons (L : List UInt8) (k : Nat) (h : endOf L k < L.length) : ∃ c, L[endOf L k]? = some c ∧ rest L (k + 1) = c :: L.drop (st L (k + 1)) := by
  refine ⟨L[endOf L k], by simp, ?_⟩
  simp only [rest, st]
  exact (List.drop_eq_getElem_cons h)
theorem drop_grp (L : List UInt8) (k : Nat) : (L.drop (st L k)).drop (nd (L.drop (st L k))) = rest L (k + 1) := by
  rw [List.drop_drop, rest, ← endOf_eq]
/-- the digits of group k -/
def wd (L : List UInt8) (k : Nat) : Nat := nd (L.drop (st L k))
theorem wd_eq (L : List UInt8) (k : Nat) : wd L k = endOf L k - st L k := by rw [endOf_eq]; unfold wd; omega
def gf (L : List UInt8) (k : Nat) : Fld := fld (L.drop (st L k))

/-- part k read: k is not 0 -/
theorem go_next (L : List UInt8) (n k : Nat) (fs : List Fld) (h : endOf L k < L.length) :
    ∃ c, L[endOf L k]? = some c ∧ go (n + 1) (k + 1) fs (rest L (k + 1)) =
      if delim c (k + 1) then (if wd L (k + 1) = 0 ∨ wid (k + 1) < wd L (k + 1) then (fs.set (k + 1) (gf L (k + 1)), false) else go n (k + 2) (fs.set (k + 1) (gf L (k + 1))) (rest L (k + 2))) else (fs, false) := by
  obtain ⟨c, hc, hr⟩ := rest_cons L k h
  refine ⟨c, hc, ?_⟩
  rw [hr]
  have hz : ¬ (k + 1 = 0) := by omega
  simp only [go, if_neg hz, part]
  rw [drop_grp L (k + 1)]
  rfl
/-- part 0 read -/
theorem go_first (L : List UInt8) (n : Nat) (fs : List Fld) :
    go (n + 1) 0 fs (rest L 0) = if wd L 0 = 0 ∨ wid 0 < wd L 0 then (fs.set 0 (gf L 0), false) else go n 1 (fs.set 0 (gf L 0)) (rest L 1) := by
  have e := drop_grp L 0
  show part (go n 1) 0 fs L = _
  have e2 : L.drop (nd L) = rest L 1 := e
  unfold part
  rw [e2]
  rfl
theorem go_done (L : List UInt8) (n k : Nat) (fs : List Fld) (h : endOf L k = L.length) : go (n + 1) (k + 1) fs (rest L (k + 1)) = (fs, decide (3 ≤ k + 1)) := by
  have hr : rest L (k + 1) = [] := by simp [rest, h]
  rw [hr]
  simp [go]
/-- a true answer goes on to the next part -/
theorem go_true (L : List UInt8) (n k : Nat) (fs : List Fld) (h : k = 0 ∨ ∃ i, k = i + 1 ∧ endOf L i < L.length) (ht : (go (n + 1) k fs (rest L k)).2 = true) :
    ∃ fs', go (n + 1) k fs (rest L k) = go n (k + 1) fs' (rest L (k + 1)) := by
  rcases h with rfl | ⟨i, rfl, hi⟩
  · have e := go_first L n fs
    split at e
    · rw [e] at ht; simp at ht
    · exact ⟨_, e⟩
  · obtain ⟨c, hc, e⟩ := go_next L n i fs hi
    split at e
    · split at e
      · rw [e] at ht; simp at ht
      · exact ⟨_, e⟩
    · rw [e] at ht; simp at ht
theorem two_false (L : List UInt8) (h : Cuts L 2) : (go 6 0 zero7 (rest L 0)).2 = false := by
  cases ht : (go 6 0 zero7 (rest L 0)).2 with
  | false => rfl
  | true =>
    exfalso
    obtain ⟨f1, e1⟩ := go_true L 5 0 zero7 (.inl rfl) ht
    have h0 := h.lt 0 (by omega)
    rw [e1] at ht
    obtain ⟨f2, e2⟩ := go_true L 4 1 f1 (.inr ⟨0, rfl, h0⟩) ht
    rw [e2, go_done L 3 1 f2 h.last] at ht
    simp at ht
theorem eight_false (L : List UInt8) (m : Nat) (hm : 7 < m) (h : Cuts L m) : (go 6 0 zero7 (rest L 0)).2 = false := by
  cases ht : (go 6 0 zero7 (rest L 0)).2 with
  | false => rfl
  | true =>
    exfalso
    obtain ⟨f1, e1⟩ := go_true L 5 0 zero7 (.inl rfl) ht
    rw [e1] at ht
    obtain ⟨f2, e2⟩ := go_true L 4 1 f1 (.inr ⟨0, rfl, h.lt 0 (by omega)⟩) ht
    rw [e2] at ht
    obtain ⟨f3, e3⟩ := go_true L 3 2 f2 (.inr ⟨1, rfl, h.lt 1 (by omega)⟩) ht
    rw [e3] at ht
    obtain ⟨f4, e4⟩ := go_true L 2 3 f3 (.inr ⟨2, rfl, h.lt 2 (by omega)⟩) ht
    rw [e4] at ht
    obtain ⟨f5, e5⟩ := go_true L 1 4 f4 (.inr ⟨3, rfl, h.lt 3 (by omega)⟩) ht
    rw [e5] at ht
    obtain ⟨f6, e6⟩ := go_true L 0 5 f5 (.inr ⟨4, rfl, h.lt 4 (by omega)⟩) ht
    rw [e6] at ht
    obtain ⟨c, hc, hr⟩ := rest_cons L 5 (h.lt 5 (by omega))
    rw [hr] at ht
    simp only [go, fin] at ht
    split at ht
    · have h6 := h.lt 6 (by omega)
      have e := endOf_eq L 6
      simp at ht
      have := nd_le' (L.drop (st L 6))
      rw [List.length_drop] at this
      omega
    · simp at ht
/-- behind the sixth part, seven groups -/
theorem fin_seven (L : List UInt8) (fs : List Fld) (h : Cuts L 7) : ∃ c, L[endOf L 5]? = some c ∧ go 0 6 fs (rest L 6) = if c.toNat = 46 then (fs.set 6 (gf L 6), true) else (fs, false) := by
  obtain ⟨c, hc, hr⟩ := rest_cons L 5 (h.lt 5 (by omega))
  refine ⟨c, hc, ?_⟩
  rw [hr]
  simp only [go, fin, gf]
  have hl := h.last
  have e := endOf_eq L 6
  simp at hl
  have : nd (L.drop (st L 6)) = (L.drop (st L 6)).length := by rw [List.length_drop]; omega
  rw [this]
  simp
theorem fin_six (L : List UInt8) (fs : List Fld) (h : Cuts L 6) : go 0 6 fs (rest L 6) = (fs, true) := by
  have hr : rest L 6 = [] := by
    have := h.last
    simp at this
    simp [rest, this]
  rw [hr]
  rfl
/-- the compact form's question, by the groups -/
theorem dtf_ask (L : List UInt8) (m : Nat) (h : Cuts L m) : dtf L = if m = 1 ∨ (12 ≤ nd L ∧ (L.drop (nd L)).head? = some 46) then compact L (nd L) else go 6 0 zero7 (rest L 0) := by
  have e : (nd L = L.length) ↔ m = 1 := by
    constructor
    · intro e
      have := h.pos
      by_cases h1 : m = 1
      · exact h1
      · have := h.lt 0 (by omega)
        simp [endOf] at this
        omega
    · rintro rfl
      exact h.last
  simp only [dtf, rest, e]

/-! ### the compact form by places -/
theorem at_eq (L : List UInt8) (i w : Nat) (h : i + w ≤ nd L) (hw : w ≤ 6) : at' L i w = ⟨dec ((L.drop i).take w), w, 0⟩ := by
  unfold at'
  have hnd : i ≤ nd L → nd (L.drop i) = nd L - i := by
    intro hi
    clear h
    induction L generalizing i with
    | nil => simp [nd] at hi; subst hi; simp [nd]
    | cons c r ih =>
      cases i with
      | zero => simp
      | succ i =>
        by_cases hc : isD c = true
        · simp only [nd, hc, if_true] at hi
          simp only [List.drop_succ_cons, nd, hc, if_true]
          rw [ih i (by omega)]; omega
        · simp [nd, hc] at hi
  obtain ⟨e1, e2⟩ := nd_take (L.drop i) w (by rw [hnd (by omega)]; omega)
  rw [fld_eq, e1]
  rw [if_neg (by omega), show min w 6 = w from by omega]
  rw [List.take_take, Nat.min_self]
theorem dec_step (L : List UInt8) (t b : Nat) (h : t < b) (c : UInt8) (hc : L[t]? = some c) (hb : b ≤ L.length) : dec ((L.drop t).take (b - t)) = (c.toNat - 48) * 10 ^ (b - (t + 1)) + dec ((L.drop (t + 1)).take (b - (t + 1))) := by
  have ht : t < L.length := by omega
  rw [List.getElem?_eq_getElem ht] at hc
  simp at hc
  rw [List.drop_eq_getElem_cons ht, show b - t = (b - (t + 1)) + 1 from by omega, List.take_succ_cons, dec, hc]
  congr 2
  rw [List.length_take, List.length_drop]
  congr 1
  omega
end Go.Proofs.Qxb6601586a.Dt
