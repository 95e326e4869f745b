/-
  PLAIN: fields of digits. No Go in sight.
-/
import Derived.Test.Qxb6601586aNum
namespace Go.Proofs.Qxb6601586a.Dt
open Num

/-- a field: the number of its first six digits, how many digits, the seventh (or 0) -/
structure Fld where
  n : Nat
  w : Nat
  s : Nat

/-- one digit more -/
def Fld.push (f : Fld) (c : UInt8) : Fld :=
  if f.w < 6 then ⟨f.n * 10 + (c.toNat - 48), f.w + 1, f.s⟩
  else if f.w = 6 then ⟨f.n, f.w + 1, c.toNat⟩
  else ⟨f.n, f.w + 1, f.s⟩
/-- reading digits on from f -/
def run (f : Fld) : List UInt8 → Fld
  | [] => f
  | c :: r => if isD c then run (f.push c) r else f
def fld0 : Fld := ⟨0, 0, 0⟩
/-- the field that opens the list -/
def fld (l : List UInt8) : Fld := run fld0 l

theorem push_w (f : Fld) (c : UInt8) : (f.push c).w = f.w + 1 := by
  unfold Fld.push
  split
  · rfl
  · split <;> rfl
theorem run_w (l : List UInt8) : ∀ f, (run f l).w = f.w + nd l := by
  induction l with
  | nil => intro f; rfl
  | cons c r ih =>
    intro f
    by_cases h : isD c = true
    · simp only [run, nd, h, if_true]
      rw [ih, push_w]; omega
    · simp only [run, nd, h]
      rfl
theorem fld_w (l : List UInt8) : (fld l).w = nd l := by
  unfold fld; rw [run_w]; simp [fld0]
/-- the number's bound while it is read -/
def Fld.Ok (f : Fld) : Prop := f.n < 10 ^ (min f.w 6) ∧ f.s < 256
theorem push_ok (f : Fld) (c : UInt8) (hc : isD c = true) (h : f.Ok) : (f.push c).Ok := by
  have hd : 48 ≤ c.toNat ∧ c.toNat ≤ 57 := by simpa [isD] using hc
  unfold Fld.Ok at *
  unfold Fld.push
  split
  · rename_i h6
    refine ⟨?_, h.2⟩
    have e1 : min f.w 6 = f.w := by omega
    have e2 : min (f.w + 1) 6 = f.w + 1 := by omega
    rw [e1] at h
    simp only [e2, Nat.pow_succ]
    omega
  · split
    · rename_i h6 h7
      refine ⟨?_, by simp only; omega⟩
      have e1 : min f.w 6 = 6 := by omega
      have e2 : min (f.w + 1) 6 = 6 := by omega
      rw [e1] at h
      simp only [e2]
      exact h.1
    · rename_i h6 h7
      refine ⟨?_, h.2⟩
      have e1 : min f.w 6 = 6 := by omega
      have e2 : min (f.w + 1) 6 = 6 := by omega
      rw [e1] at h
      simp only [e2]
      exact h.1
theorem ok_lt (f : Fld) (h : f.Ok) : f.n < 1000000 := by
  have h1 := h.1
  have : 10 ^ (min f.w 6) ≤ 10 ^ 6 := Nat.pow_le_pow_right (by omega) (by omega)
  omega
theorem ok_lt5 (f : Fld) (h : f.Ok) (h6 : f.w < 6) : f.n < 100000 := by
  have h1 := h.1
  have : 10 ^ (min f.w 6) ≤ 10 ^ 5 := Nat.pow_le_pow_right (by omega) (by omega)
  omega
theorem ok0 : fld0.Ok := by unfold Fld.Ok fld0; decide
theorem run_ok (l : List UInt8) : ∀ f, f.Ok → (run f l).Ok := by
  induction l with
  | nil => intro f h; exact h
  | cons c r ih =>
    intro f h
    by_cases hc : isD c = true
    · simp only [run, hc, if_true]; exact ih _ (push_ok f c hc h)
    · simp only [run, hc]; exact h
theorem fld_ok (l : List UInt8) : (fld l).Ok := run_ok l _ ok0

/-! ### the delimiters -/
def punct (c : UInt8) : Bool := decide (32 < c.toNat) && decide (c.toNat < 127) && !isD c && !(decide (97 ≤ c.toNat) && decide (c.toNat ≤ 122)) && !(decide (65 ≤ c.toNat) && decide (c.toNat ≤ 90))
def delim (c : UInt8) (k : Nat) : Bool := if k = 3 then (c.toNat == 32 || c.toNat == 84) else punct c
def wid (k : Nat) : Nat := if k = 0 then 4 else 2

/-! ### the delimited form -/
/-- what stands behind the six parts -/
def fin (fs : List Fld) : List UInt8 → List Fld × Bool
  | [] => (fs, true)
  | c :: r => if c.toNat = 46 then (fs.set 6 (fld r), decide (nd r = r.length)) else (fs, false)
/-- part k is read at the head of l, and what follows by next -/
def part (next : List Fld → List UInt8 → List Fld × Bool) (k : Nat) (fs : List Fld) (l : List UInt8) : List Fld × Bool :=
  if nd l = 0 ∨ wid k < nd l then (fs.set k (fld l), false) else next (fs.set k (fld l)) (l.drop (nd l))
/-- m parts are left, the next is part k -/
def go : Nat → Nat → List Fld → List UInt8 → List Fld × Bool
  | 0, _, fs, l => fin fs l
  | m + 1, k, fs, l =>
    if k = 0 then part (go m (k + 1)) k fs l
    else match l with
      | [] => (fs, decide (3 ≤ k))
      | c :: r => if delim c k then part (go m (k + 1)) k fs r else (fs, false)
def zero7 : List Fld := [fld0, fld0, fld0, fld0, fld0, fld0, fld0]

/-! ### the compact form -/
/-- the field of w digits at place i -/
def at' (l : List UInt8) (i w : Nat) : Fld := fld ((l.drop i).take w)
/-- the first c fields, the year of yw digits -/
def comp (l : List UInt8) (yw : Nat) : Nat → List Fld
  | 0 => zero7
  | k + 1 => (comp l yw k).set k (if k = 0 then at' l 0 yw else at' l (yw + 2 * (k - 1)) 2)
/-- the fraction behind place n -/
def compFin (l : List UInt8) (n : Nat) (fs : List Fld) : List Fld × Bool :=
  if n < l.length then (fs.set 6 (fld (l.drop (n + 1))), decide (n + (1 + nd (l.drop (n + 1))) = l.length)) else (fs, decide (n = l.length))
def compact (l : List UInt8) (n : Nat) : List Fld × Bool :=
  if n = 6 then compFin l n (comp l 2 3) else if n = 12 then compFin l n (comp l 2 6)
  else if n = 8 then compFin l n (comp l 4 3) else if n = 14 then compFin l n (comp l 4 6) else (zero7, false)

/-- dateTimeFields -/
def dtf (l : List UInt8) : List Fld × Bool :=
  if nd l = l.length ∨ (12 ≤ nd l ∧ (l.drop (nd l)).head? = some 46) then compact l (nd l) else go 6 0 zero7 l
end Go.Proofs.Qxb6601586a.Dt
