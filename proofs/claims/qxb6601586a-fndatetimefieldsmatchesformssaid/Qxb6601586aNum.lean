/-
  PLAIN LAW: the longest opening number and the automaton, on lists of bytes. No Go in sight.
-/
namespace Go.Proofs.Qxb6601586a.Num

def isD (c : UInt8) : Bool := decide (48 ≤ c.toNat) && decide (c.toNat ≤ 57)
def isSg (c : UInt8) : Bool := c.toNat == 43 || c.toNat == 45
def isE (c : UInt8) : Bool := c.toNat == 101 || c.toNat == 69
def isP (c : UInt8) : Bool := c.toNat == 46

/-- how many digits open the list -/
def nd : List UInt8 → Nat
  | [] => 0
  | c :: r => if isD c then nd r + 1 else 0
/-- one if a sign opens the list -/
def sg : List UInt8 → Nat
  | [] => 0
  | c :: _ => if isSg c then 1 else 0
def ipEnd (l : List UInt8) : Nat := sg l + nd (l.drop (sg l))
def ipDig (l : List UInt8) : Nat := nd (l.drop (sg l))
/-- the exponent behind a number that ends at i; r: what stands behind it -/
def expo (i : Nat) : List UInt8 → Nat
  | [] => i
  | c :: r => if isE c then (if 0 < ipDig r then i + (1 + ipEnd r) else i) else i
/-- where the number ends that has been read to i with d digits, behind whose integer part r stands -/
def frac (i d : Nat) : List UInt8 → Nat
  | [] => if d = 0 then 0 else i
  | c :: r =>
    if isP c then
      (if d + nd r = 0 then 0 else expo (i + 1 + nd r) (r.drop (nd r)))
    else (if d = 0 then 0 else expo i (c :: r))
def numPre (l : List UInt8) : Nat := frac (ipEnd l) (ipDig l) (l.drop (ipEnd l))

/-! ### the automaton -/
/-- the state 9 stands for Go's -1 -/
def step (st : Nat) (c : UInt8) : Nat :=
  match st with
  | 0 => if isSg c then 1 else if isD c then 2 else if isP c then 4 else 9
  | 1 => if isD c then 2 else if isP c then 4 else 9
  | 2 => if isD c then 2 else if isP c then 3 else if isE c then 6 else 9
  | 3 => if isD c then 5 else if isE c then 6 else 9
  | 4 => if isD c then 5 else 9
  | 5 => if isD c then 5 else if isE c then 6 else 9
  | 6 => if isSg c then 7 else if isD c then 8 else 9
  | 7 => if isD c then 8 else 9
  | 8 => if isD c then 8 else 9
  | _ => 9
def acc (st : Nat) : Bool := st == 2 || st == 3 || st == 5 || st == 8
/-- best length, from state st, j bytes read, best so far b -/
def md (st j b : Nat) : List UInt8 → Nat
  | [] => b
  | c :: r => md (step st c) (j + 1) (if acc (step st c) then j + 1 else b) r

theorem isD_E {c : UInt8} (h : isE c = true) : isD c = false := by
  simp only [isE, isD, Bool.or_eq_true, beq_iff_eq, Bool.and_eq_false_iff, decide_eq_false_iff_not] at *
  omega
theorem isD_Sg {c : UInt8} (h : isSg c = true) : isD c = false := by
  simp only [isSg, isD, Bool.or_eq_true, beq_iff_eq, Bool.and_eq_false_iff, decide_eq_false_iff_not] at *
  omega
theorem isD_P {c : UInt8} (h : isP c = true) : isD c = false := by
  simp only [isP, isD, beq_iff_eq, Bool.and_eq_false_iff, decide_eq_false_iff_not] at *
  omega
theorem isE_P {c : UInt8} (h : isP c = true) : isE c = false := by
  simp only [isP, isE, beq_iff_eq, Bool.or_eq_false_iff, beq_eq_false_iff_ne] at *
  omega
theorem isSg_P {c : UInt8} (h : isP c = true) : isSg c = false := by
  simp only [isP, isSg, beq_iff_eq, Bool.or_eq_false_iff, beq_eq_false_iff_ne] at *
  omega

theorem md9 (r : List UInt8) : ∀ j b, md 9 j b r = b := by
  induction r with
  | nil => intro j b; rfl
  | cons c r ih => intro j b; simp only [md, step]; rw [ih]; simp [acc]

theorem md8 (r : List UInt8) : ∀ j, md 8 j j r = j + nd r := by
  induction r with
  | nil => intro j; rfl
  | cons c r ih =>
    intro j
    by_cases h : isD c = true
    · simp only [md, step, h, if_true, nd, acc]
      simp
      rw [ih]; omega
    · simp only [md, step, h, nd, acc]
      simp [md9]

theorem md7 (r : List UInt8) (j b : Nat) : md 7 j b r = if 0 < nd r then j + nd r else b := by
  cases r with
  | nil => rfl
  | cons c r =>
    by_cases h : isD c = true
    · simp only [md, step, h, if_true, nd, acc]
      simp
      rw [md8]; omega
    · simp only [md, step, h, nd, acc]
      simp [md9]

theorem md6 (r : List UInt8) (j b : Nat) : md 6 j b r = if 0 < ipDig r then j + ipEnd r else b := by
  cases r with
  | nil => rfl
  | cons c r =>
    by_cases hs : isSg c = true
    · simp only [md, step, hs, if_true, ipDig, ipEnd, sg, acc]
      simp
      rw [md7]
      have : j + 1 + nd r = j + (1 + nd r) := by omega
      rw [this]
    · by_cases h : isD c = true
      · simp only [md, step, hs, h, if_true, ipDig, ipEnd, sg, acc]
        simp
        rw [md8]
        simp [nd, h]; omega
      · simp only [md, step, hs, h, ipDig, ipEnd, sg, acc]
        simp [md9, nd, h]

theorem mdE {c : UInt8} (h : isE c = true) (r : List UInt8) (j : Nat) : md 6 (j + 1) j r = expo j (c :: r) := by
  rw [md6]
  simp only [expo, h, if_true]
  have : j + 1 + ipEnd r = j + (1 + ipEnd r) := by omega
  rw [this]

theorem expo_nil (j : Nat) : expo j [] = j := rfl

theorem md5 (r : List UInt8) : ∀ j, md 5 j j r = expo (j + nd r) (r.drop (nd r)) := by
  induction r with
  | nil => intro j; rfl
  | cons c r ih =>
    intro j
    by_cases h : isD c = true
    · simp only [md, step, h, if_true, nd, acc]
      simp
      rw [ih]
      have : j + 1 + nd r = j + (nd r + 1) := by omega
      rw [this]
    · by_cases he : isE c = true
      · simp only [md, step, h, he, nd, acc]
        simp
        exact mdE he r j
      · simp only [md, step, h, he, nd, acc]
        simp [md9, expo, he]

theorem md3 (r : List UInt8) (j : Nat) : md 3 j j r = expo (j + nd r) (r.drop (nd r)) := by
  rw [← md5]
  cases r with
  | nil => rfl
  | cons c r => simp only [md, step]

theorem md4 (r : List UInt8) (j b : Nat) : md 4 j b r = if 0 < nd r then expo (j + nd r) (r.drop (nd r)) else b := by
  cases r with
  | nil => rfl
  | cons c r =>
    by_cases h : isD c = true
    · simp only [md, step, h, if_true, nd, acc]
      simp
      rw [md5]
      have : j + 1 + nd r = j + (nd r + 1) := by omega
      rw [this]
    · simp only [md, step, h, nd, acc]
      simp [md9]

theorem md2 (r : List UInt8) : ∀ j d, 0 < d → md 2 j j r = frac (j + nd r) (d + nd r) (r.drop (nd r)) := by
  induction r with
  | nil => intro j d hd; show j = if d + 0 = 0 then 0 else j + 0; rw [if_neg (by omega)]; rfl
  | cons c r ih =>
    intro j d hd
    by_cases h : isD c = true
    · simp only [md, step, h, if_true, nd, acc]
      simp
      rw [ih (j + 1) (d + 1) (by omega)]
      have e1 : j + 1 + nd r = j + (nd r + 1) := by omega
      have e2 : d + 1 + nd r = d + (nd r + 1) := by omega
      rw [e1, e2]
    · by_cases hp : isP c = true
      · simp only [md, step, h, hp, nd, acc]
        simp
        rw [md3]
        simp only [frac, hp, if_true]
        rw [if_neg (by omega)]
      · by_cases he : isE c = true
        · simp only [md, step, h, he, hp, nd, acc]
          simp
          rw [mdE he r j]
          simp only [frac, hp]
          rw [if_neg (by simp), if_neg (by omega)]
        · simp only [md, step, h, he, hp, nd, acc]
          have e : frac j d (c :: r) = j := by simp only [frac]; rw [if_neg hp, if_neg (by omega)]; simp only [expo]; rw [if_neg he]
          simp [md9, e]

theorem md1 (r : List UInt8) (j : Nat) : md 1 j 0 r = frac (j + nd r) (nd r) (r.drop (nd r)) := by
  cases r with
  | nil => rfl
  | cons c r =>
    by_cases h : isD c = true
    · simp only [md, step, h, if_true, nd, acc]
      simp
      rw [md2 r (j + 1) 1 (by omega)]
      have e1 : j + 1 + nd r = j + (nd r + 1) := by omega
      have e2 : 1 + nd r = nd r + 1 := by omega
      rw [e1, e2]
    · by_cases hp : isP c = true
      · simp only [md, step, h, hp, nd, acc]
        simp
        rw [md4]
        simp only [frac, hp, if_true]
        by_cases hz : 0 < nd r
        · rw [if_pos hz, if_neg (by omega)]
        · rw [if_neg hz, if_pos (by omega)]
      · simp only [md, step, h, hp, nd, acc]
        simp [frac, hp, md9]

/-- THE LAW: the automaton's longest accepted opening is numPre. -/
theorem model_eq (l : List UInt8) : md 0 0 0 l = numPre l := by
  cases l with
  | nil => rfl
  | cons c r =>
    by_cases hs : isSg c = true
    · simp only [md, step, hs, if_true, acc, numPre, ipEnd, ipDig, sg]
      simp
      rw [md1, Nat.add_comm 1 (nd r)]
      simp
    · have e : md 0 0 0 (c :: r) = md 1 0 0 (c :: r) := by
        simp only [md, step, hs]
        simp
      rw [e, md1]
      simp [numPre, ipEnd, ipDig, sg, hs]

/-! ### what the second law wants -/
theorem md_le (r : List UInt8) : ∀ st j b, b ≤ j → (md st j b r = b ∨ j < md st j b r) ∧ md st j b r ≤ j + r.length := by
  induction r with
  | nil => intro st j b h; simp [md]; exact h
  | cons c r ih =>
    intro st j b h
    simp only [md, List.length_cons]
    by_cases ha : acc (step st c) = true
    · have := ih (step st c) (j + 1) (j + 1) (Nat.le_refl _)
      simp only [ha, if_true]
      omega
    · have := ih (step st c) (j + 1) b (by omega)
      rw [if_neg ha]
      omega

/-- reading again what was read -/
theorem md_take (r : List UInt8) : ∀ st j b n, b ≤ j → md st j b r = j + n → md st j b (r.take n) = j + n := by
  induction r with
  | nil => intro st j b n hb h; simp [md] at *; exact h
  | cons c r ih =>
    intro st j b n hb h
    cases n with
    | zero =>
      have := md_le (c :: r) st j b hb
      show b = j + 0
      omega
    | succ n =>
      simp only [List.take, md] at h ⊢
      by_cases ha : acc (step st c) = true
      · simp only [ha, if_true] at h ⊢
        have := ih (step st c) (j + 1) (j + 1) n (Nat.le_refl _) (by omega)
        omega
      · rw [if_neg ha] at h ⊢
        have := ih (step st c) (j + 1) b n (by omega) (by omega)
        omega

theorem numPre_le (l : List UInt8) : numPre l ≤ l.length := by
  rw [← model_eq]
  have := md_le l 0 0 0 (Nat.le_refl _)
  omega
theorem numPre_take (l : List UInt8) : numPre (l.take (numPre l)) = numPre l := by
  have h := md_take l 0 0 0 (numPre l) (Nat.le_refl _) (by rw [model_eq]; omega)
  rw [model_eq] at h
  omega
theorem numPre_zero (c : UInt8) (r : List UInt8) (h : numPre (c :: r) = 0) : isD c = false := by
  rw [← model_eq] at h
  by_cases hd : isD c = true
  · have hs : isSg c = false := by
      cases hsg : isSg c
      · rfl
      · rw [isD_Sg hsg] at hd; cases hd
    simp only [md, step, hs, hd] at h
    simp [acc] at h
    have := md_le r 2 1 1 (Nat.le_refl _)
    omega
  · simpa using hd

/-- a digit is among the bytes read wherever the answer is not 0 -/
theorem nd_none (r : List UInt8) (h : r.any isD = false) : nd r = 0 := by
  cases r with
  | nil => rfl
  | cons c r => simp only [List.any_cons, Bool.or_eq_false_iff] at h; simp [nd, h.1]
theorem any_drop (r : List UInt8) (h : r.any isD = false) (n : Nat) : (r.drop n).any isD = false := by
  rw [List.any_eq_false] at h ⊢
  exact fun x hx => h x (List.mem_of_mem_drop hx)
theorem numPre_none (l : List UInt8) (h : l.any isD = false) : numPre l = 0 := by
  have h0 : ipDig l = 0 := nd_none _ (any_drop l h _)
  have hd := any_drop l h (ipEnd l)
  unfold numPre
  rw [h0]
  generalize l.drop (ipEnd l) = r at hd
  cases r with
  | nil => rfl
  | cons c r =>
    simp only [frac]
    by_cases hp : isP c = true
    · simp only [hp, if_true]
      rw [if_pos]
      simp only [List.any_cons, Bool.or_eq_false_iff] at hd
      rw [nd_none r hd.2]
    · simp [hp]
theorem numPre_digit (l : List UInt8) (h : 0 < numPre l) : (l.take (numPre l)).any isD = true := by
  cases hb : (l.take (numPre l)).any isD
  · have := numPre_none _ hb
    rw [numPre_take] at this
    omega
  · rfl
end Go.Proofs.Qxb6601586a.Num
