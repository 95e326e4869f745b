/-
  PLAIN LAW: both texts read back as the same numbers.
-/
import Derived.Test.Qxb6601586aDtJ
namespace Go.Proofs.Qxb6601586a.Dt
open Num

theorem pad_succ (wd v : Nat) : pad (wd + 1) v = dig v wd :: pad wd v := by
  unfold pad
  rw [List.range_succ_eq_map, List.map_cons, List.map_map]
  congr 1
  apply List.map_congr_left
  intro t _
  show dig v (wd + 1 - 1 - (t + 1)) = dig v (wd - 1 - t)
  congr 1
  omega
theorem dig_isD (v e : Nat) : isD (dig v e) = true := by
  have h := dig_nat v e
  have : v / 10 ^ e % 10 < 10 := Nat.mod_lt _ (by omega)
  unfold isD
  rw [h]
  simp
  omega
theorem nd_pad (wd v : Nat) (r : List UInt8) : nd (pad wd v ++ r) = wd + nd r := by
  induction wd with
  | zero => simp [pad]
  | succ wd ih => rw [pad_succ, List.cons_append, nd, if_pos (dig_isD v wd), ih]; omega
theorem run_stop (f : Fld) (r : List UInt8) (h : nd r = 0) : run f r = f := by
  cases r with
  | nil => rfl
  | cons c r =>
    by_cases hc : isD c = true
    · simp [nd, hc] at h
    · simp [run, hc]
theorem run_pad (v : Nat) (r : List UInt8) (hr : nd r = 0) : ∀ (wd : Nat) (f : Fld), f.w + wd ≤ 6 → run f (pad wd v ++ r) = ⟨f.n * 10 ^ wd + v % 10 ^ wd, f.w + wd, f.s⟩ := by
  intro wd
  induction wd with
  | zero => intro f _; simp [pad, run_stop f r hr, Nat.mod_one]
  | succ wd ih =>
    intro f h
    rw [pad_succ, List.cons_append, run, if_pos (dig_isD v wd), ih (f.push (dig v wd)) (by rw [push_w]; omega), push_w]
    have hp : (f.push (dig v wd)).n = f.n * 10 + v / 10 ^ wd % 10 ∧ (f.push (dig v wd)).s = f.s := by
      unfold Fld.push
      rw [if_pos (by omega), dig_nat]
      exact ⟨by simp, rfl⟩
    rw [hp.1, hp.2, Nat.mod_pow_succ]
    have e : (f.n * 10 + v / 10 ^ wd % 10) * 10 ^ wd + v % 10 ^ wd = f.n * 10 ^ (wd + 1) + (v % 10 ^ wd + 10 ^ wd * (v / 10 ^ wd % 10)) := by
      rw [Nat.add_mul, Nat.pow_succ, Nat.mul_comm (v / 10 ^ wd % 10), Nat.mul_assoc, Nat.mul_comm 10]
      omega
    rw [e, show f.w + 1 + wd = f.w + (wd + 1) from by omega]
theorem fld_pad (wd v : Nat) (r : List UInt8) (hr : nd r = 0) (hw : wd ≤ 6) (hv : v < 10 ^ wd) : fld (pad wd v ++ r) = ⟨v, wd, 0⟩ := by
  unfold fld
  rw [run_pad v r hr wd fld0 (by simp [fld0]; exact hw)]
  simp [fld0, Nat.mod_eq_of_lt hv]

theorem part_pad (next : List Fld → List UInt8 → List Fld × Bool) (k : Nat) (fs : List Fld) (wd v : Nat) (r : List UInt8) (hr : nd r = 0) (h0 : wd ≠ 0) (hk : wd ≤ wid k) (hv : v < 10 ^ wd) :
    part next k fs (pad wd v ++ r) = next (fs.set k ⟨v, wd, 0⟩) r := by
  have h4 : wid k ≤ 4 := by unfold wid; split <;> omega
  unfold part
  rw [nd_pad, hr, Nat.add_zero, if_neg (by omega), fld_pad wd v r hr (by omega) hv]
  congr 1
  rw [List.drop_append_of_le_length (by rw [pad_len]; omega), List.drop_of_length_le (by rw [pad_len]; omega), List.nil_append]
theorem go_pad0 (m : Nat) (fs : List Fld) (wd v : Nat) (r : List UInt8) (hr : nd r = 0) (h0 : wd ≠ 0) (hk : wd ≤ 4) (hv : v < 10 ^ wd) :
    go (m + 1) 0 fs (pad wd v ++ r) = go m 1 (fs.set 0 ⟨v, wd, 0⟩) r := by
  show part (go m 1) 0 fs (pad wd v ++ r) = _
  exact part_pad _ 0 fs wd v r hr h0 hk hv
theorem go_pad (m k : Nat) (fs : List Fld) (c : UInt8) (v : Nat) (r : List UInt8) (hr : nd r = 0) (hk : k ≠ 0) (hd : delim c k = true) (hv : v < 100) :
    go (m + 1) k fs (c :: (pad 2 v ++ r)) = go m (k + 1) (fs.set k ⟨v, 2, 0⟩) r := by
  simp only [go]
  rw [if_neg hk]
  simp only [hd, if_true]
  exact part_pad _ k fs 2 v r hr (by omega) (by unfold wid; rw [if_neg hk]; omega) hv
theorem nd_cons_no (c : UInt8) (r : List UInt8) (h : isD c = false) : nd (c :: r) = 0 := by simp [nd, h]
theorem punct_noD (c : UInt8) (h : punct c = true) : isD c = false := by
  cases hd : isD c
  · rfl
  · unfold punct at h; rw [hd] at h; simp at h
theorem at_pad (A : List UInt8) (wd v : Nat) (r : List UInt8) (hw : wd ≤ 6) (hv : v < 10 ^ wd) (i : Nat) (hi : A.length = i) : at' (A ++ (pad wd v ++ r)) i wd = ⟨v, wd, 0⟩ := by
  unfold at'
  rw [List.drop_append_of_le_length (by omega), List.drop_of_length_le (by omega), List.nil_append, List.take_append_of_le_length (by rw [pad_len]; omega), List.take_of_length_le (by rw [pad_len]; omega)]
  have := fld_pad wd v [] rfl hw hv
  rwa [List.append_nil] at this

/-- the delimited text -/
theorem dtf_dl (y mo d h mi sc us : Nat) (p q : UInt8) (h1 : y ≤ 9999) (h2 : mo ≤ 99) (h3 : d ≤ 99) (h4 : h ≤ 99) (h5 : mi ≤ 99) (h6 : sc ≤ 99) (h7 : us ≤ 999999) (hp : punct p = true) (hq : q = 32 ∨ q = 84) :
    dtf (pad 4 y ++ p :: (pad 2 mo ++ p :: (pad 2 d ++ q :: (pad 2 h ++ p :: (pad 2 mi ++ p :: (pad 2 sc ++ 46 :: (pad 6 us ++ []))))))) = ([⟨y, 4, 0⟩, ⟨mo, 2, 0⟩, ⟨d, 2, 0⟩, ⟨h, 2, 0⟩, ⟨mi, 2, 0⟩, ⟨sc, 2, 0⟩, ⟨us, 6, 0⟩], true) := by
  have np := punct_noD p hp
  have nq : isD q = false := by rcases hq with rfl | rfl <;> rfl
  have dq : delim q 3 = true := by rcases hq with rfl | rfl <;> rfl
  have dp : ∀ k, k ≠ 3 → delim p k = true := fun k hk => by unfold delim; rw [if_neg hk]; exact hp
  unfold dtf
  rw [if_neg (by
    rw [nd_pad, nd_cons_no p _ np]
    simp [pad_len])]
  rw [go_pad0 5 zero7 4 y _ (nd_cons_no p _ np) (by omega) (by omega) (by omega)]
  rw [go_pad 4 1 _ p mo _ (nd_cons_no p _ np) (by omega) (dp 1 (by omega)) (by omega)]
  rw [go_pad 3 2 _ p d _ (nd_cons_no q _ nq) (by omega) (dp 2 (by omega)) (by omega)]
  rw [go_pad 2 3 _ q h _ (nd_cons_no p _ np) (by omega) dq (by omega)]
  rw [go_pad 1 4 _ p mi _ (nd_cons_no p _ np) (by omega) (dp 4 (by omega)) (by omega)]
  rw [go_pad 0 5 _ p sc _ (nd_cons_no 46 _ rfl) (by omega) (dp 5 (by omega)) (by omega)]
  simp only [go, fin]
  rw [if_pos (show UInt8.toNat 46 = 46 from rfl), fld_pad 6 us [] rfl (by omega) (by omega), nd_pad]
  simp [pad_len, zero7, nd]

/-- the compact text -/
theorem dtf_cl (y mo d h mi sc us : Nat) (h1 : y ≤ 9999) (h2 : mo ≤ 99) (h3 : d ≤ 99) (h4 : h ≤ 99) (h5 : mi ≤ 99) (h6 : sc ≤ 99) (h7 : us ≤ 999999) :
    dtf (pad 4 y ++ (pad 2 mo ++ (pad 2 d ++ (pad 2 h ++ (pad 2 mi ++ (pad 2 sc ++ 46 :: (pad 6 us ++ []))))))) = ([⟨y, 4, 0⟩, ⟨mo, 2, 0⟩, ⟨d, 2, 0⟩, ⟨h, 2, 0⟩, ⟨mi, 2, 0⟩, ⟨sc, 2, 0⟩, ⟨us, 6, 0⟩], true) := by
  have a0 := at_pad [] 4 y (pad 2 mo ++ (pad 2 d ++ (pad 2 h ++ (pad 2 mi ++ (pad 2 sc ++ 46 :: (pad 6 us ++ [])))))) (by omega) (by omega) 0 rfl
  have a1 := at_pad (pad 4 y) 2 mo (pad 2 d ++ (pad 2 h ++ (pad 2 mi ++ (pad 2 sc ++ 46 :: (pad 6 us ++ []))))) (by omega) (by omega) 4 (pad_len _ _)
  have a2 := at_pad (pad 4 y ++ pad 2 mo) 2 d (pad 2 h ++ (pad 2 mi ++ (pad 2 sc ++ 46 :: (pad 6 us ++ [])))) (by omega) (by omega) 6 (by simp [pad_len])
  have a3 := at_pad (pad 4 y ++ pad 2 mo ++ pad 2 d) 2 h (pad 2 mi ++ (pad 2 sc ++ 46 :: (pad 6 us ++ []))) (by omega) (by omega) 8 (by simp [pad_len])
  have a4 := at_pad (pad 4 y ++ pad 2 mo ++ pad 2 d ++ pad 2 h) 2 mi (pad 2 sc ++ 46 :: (pad 6 us ++ [])) (by omega) (by omega) 10 (by simp [pad_len])
  have a5 := at_pad (pad 4 y ++ pad 2 mo ++ pad 2 d ++ pad 2 h ++ pad 2 mi) 2 sc (46 :: (pad 6 us ++ [])) (by omega) (by omega) 12 (by simp [pad_len])
  have hdr : ∀ i, i = 14 → (pad 4 y ++ (pad 2 mo ++ (pad 2 d ++ (pad 2 h ++ (pad 2 mi ++ (pad 2 sc ++ 46 :: (pad 6 us ++ []))))))).drop i = 46 :: (pad 6 us ++ []) := by
    intro i hi
    have e : pad 4 y ++ (pad 2 mo ++ (pad 2 d ++ (pad 2 h ++ (pad 2 mi ++ (pad 2 sc ++ 46 :: (pad 6 us ++ [])))))) = (pad 4 y ++ pad 2 mo ++ pad 2 d ++ pad 2 h ++ pad 2 mi ++ pad 2 sc) ++ 46 :: (pad 6 us ++ []) := by simp only [List.append_assoc]
    rw [e, List.drop_append_of_le_length (by simp [pad_len]; omega), List.drop_of_length_le (by simp [pad_len]; omega), List.nil_append]
  have hdr15 : (pad 4 y ++ (pad 2 mo ++ (pad 2 d ++ (pad 2 h ++ (pad 2 mi ++ (pad 2 sc ++ 46 :: (pad 6 us ++ []))))))).drop 15 = pad 6 us ++ [] := by
    have := hdr 14 rfl
    rw [show 15 = 14 + 1 from rfl, ← List.drop_drop, this]
    rfl
  have hlen : (pad 4 y ++ (pad 2 mo ++ (pad 2 d ++ (pad 2 h ++ (pad 2 mi ++ (pad 2 sc ++ 46 :: (pad 6 us ++ []))))))).length = 21 := by simp [pad_len]
  have hnd : nd (pad 4 y ++ (pad 2 mo ++ (pad 2 d ++ (pad 2 h ++ (pad 2 mi ++ (pad 2 sc ++ 46 :: (pad 6 us ++ []))))))) = 14 := by
    rw [nd_pad, nd_pad, nd_pad, nd_pad, nd_pad, nd_pad, nd_cons_no 46 _ rfl]
  simp only [List.append_assoc, List.nil_append] at a0 a1 a2 a3 a4 a5
  generalize pad 4 y ++ (pad 2 mo ++ (pad 2 d ++ (pad 2 h ++ (pad 2 mi ++ (pad 2 sc ++ 46 :: (pad 6 us ++ [])))))) = L at *
  unfold dtf
  rw [hnd, if_pos (.inr ⟨by omega, by rw [hdr 14 rfl]; rfl⟩)]
  have hc : comp L 4 6 = [⟨y, 4, 0⟩, ⟨mo, 2, 0⟩, ⟨d, 2, 0⟩, ⟨h, 2, 0⟩, ⟨mi, 2, 0⟩, ⟨sc, 2, 0⟩, fld0] := by
    simp only [comp]
    simp [a0, a1, a2, a3, a4, a5, zero7]
  unfold compact
  rw [if_neg (by omega), if_neg (by omega), if_neg (by omega), if_pos rfl, hc]
  unfold compFin
  rw [if_pos (by omega), hdr15, fld_pad 6 us [] rfl (by omega) (by omega), nd_pad, hlen]
  simp [nd]
end Go.Proofs.Qxb6601586a.Dt
