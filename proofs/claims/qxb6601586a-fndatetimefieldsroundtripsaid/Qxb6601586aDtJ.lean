/-
  PADDED NUMBERS; WALK: zzAppendPadded.
-/
import Derived.Test.Qxb6601586aDtI
namespace Go.Proofs.Qxb6601586a.Dt
open Go.RowKit
set_option linter.unusedSimpArgs false
set_option linter.unusedVariables false

/-! ### bytes in a row of 32 cells -/
def bcells (l : List UInt8) : List Value := l.map fun c => .int .u8 (c.toNat : Int)
def buf (xs : List UInt8) : List Value := bcells xs ++ List.replicate (32 - xs.length) (.int .u8 0)
theorem bcells_len (l : List UInt8) : (bcells l).length = l.length := by simp [bcells]
theorem set_append {α : Type} (A : List α) (v z : α) (m : Nat) : (A ++ List.replicate (m + 1) z).set A.length v = (A ++ [v]) ++ List.replicate m z := by
  rw [List.set_append_right _ _ (Nat.le_refl _), Nat.sub_self, List.replicate_succ, List.set_cons_zero]
  simp
theorem buf_set (xs : List UInt8) (c : UInt8) (n : Nat) (hn : xs.length = n) (h : n < 32) : (buf xs).set n (.int .u8 (c.toNat : Int)) = buf (xs ++ [c]) := by
  subst hn
  unfold buf
  have e : 32 - xs.length = (32 - (xs ++ [c]).length) + 1 := by simp; omega
  rw [e]
  have := set_append (bcells xs) (.int .u8 (c.toNat : Int)) (.int .u8 0) (32 - (xs ++ [c]).length)
  rw [bcells_len] at this
  rw [this]
  simp [bcells]
theorem buf_get (xs : List UInt8) (n : Nat) (hn : xs.length = n) (h : n < 32) : (buf xs)[n]? = some (.int .u8 0) := by
  subst hn
  unfold buf
  rw [List.getElem?_append_right (by rw [bcells_len]; omega), bcells_len, Nat.sub_self, List.getElem?_replicate, if_pos (by omega)]
theorem buf_read (xs : List UInt8) (j : Nat) (h : j < xs.length) : (buf xs)[j]? = some (.int .u8 (xs[j].toNat : Int)) := by
  unfold buf
  rw [List.getElem?_append_left (by rw [bcells_len]; exact h)]
  simp [bcells, List.getElem?_map, h]

/-! ### digits -/
def dig (v e : Nat) : UInt8 := UInt8.ofNat (48 + v / 10 ^ e % 10)
theorem dig_nat (v e : Nat) : (dig v e).toNat = 48 + v / 10 ^ e % 10 := by
  have : v / 10 ^ e % 10 < 10 := Nat.mod_lt _ (by omega)
  unfold dig
  rw [UInt8.toNat_ofNat_of_lt']
  show _ < 256
  omega
def pad (wd v : Nat) : List UInt8 := (List.range wd).map fun t => dig v (wd - 1 - t)
theorem pad_len (wd v : Nat) : (pad wd v).length = wd := by simp [pad]
theorem pad_get (wd v t : Nat) (h : t < wd) : (pad wd v)[t]? = some (dig v (wd - 1 - t)) := by
  simp [pad, List.getElem?_map, List.getElem?_range h]
/-- the array of six bytes when the places from m on are written -/
def drow (wd v m : Nat) : List Value := (List.range 6).map fun t => if m ≤ t ∧ t < wd then .int .u8 ((dig v (wd - 1 - t)).toNat : Int) else .int .u8 0
theorem drow_len (wd v m : Nat) : (drow wd v m).length = 6 := by simp [drow]
theorem drow_at (wd v m t : Nat) (h : t < 6) : (drow wd v m)[t]? = some (if m ≤ t ∧ t < wd then .int .u8 ((dig v (wd - 1 - t)).toNat : Int) else .int .u8 0) := by
  simp [drow, List.getElem?_map, List.getElem?_range h]
theorem drow_start (wd v : Nat) : drow wd v wd = [.int .u8 0, .int .u8 0, .int .u8 0, .int .u8 0, .int .u8 0, .int .u8 0] := by
  apply List.ext_getElem?
  intro t
  by_cases h : t < 6
  · rw [drow_at wd v wd t h, if_neg (by omega)]
    match t, h with
    | 0, _ => rfl
    | 1, _ => rfl
    | 2, _ => rfl
    | 3, _ => rfl
    | 4, _ => rfl
    | 5, _ => rfl
  · rw [List.getElem?_eq_none (by rw [drow_len]; omega), List.getElem?_eq_none (by simp; omega)]
theorem drow_get (wd v t : Nat) (h : t < wd) (h6 : wd ≤ 6) : (drow wd v 0)[t]? = some (.int .u8 ((dig v (wd - 1 - t)).toNat : Int)) := by
  rw [drow_at wd v 0 t (by omega), if_pos ⟨by omega, h⟩]
theorem drow_set (wd v m : Nat) (h : m < wd) (h6 : wd ≤ 6) : (drow wd v (m + 1)).set m (.int .u8 ((dig v (wd - 1 - m)).toNat : Int)) = drow wd v m := by
  apply List.ext_getElem?
  intro t
  by_cases ht : t < 6
  · rw [drow_at wd v m t ht]
    by_cases e : t = m
    · subst e
      rw [List.getElem?_set_self (by rw [drow_len]; omega), if_pos ⟨by omega, h⟩]
    · rw [List.getElem?_set_ne (fun e' => e e'.symm), drow_at wd v (m + 1) t ht]
      by_cases c : m + 1 ≤ t ∧ t < wd
      · rw [if_pos c, if_pos ⟨by omega, c.2⟩]
      · rw [if_neg c, if_neg (by omega)]
  · rw [List.getElem?_eq_none (by simp [drow_len]; omega), List.getElem?_eq_none (by rw [drow_len]; omega)]
theorem div_step (v wd m : Nat) (h : m < wd) : v / 10 ^ (wd - (m + 1)) / 10 = v / 10 ^ (wd - m) := by
  rw [Nat.div_div_eq_div_mul, ← Nat.pow_succ]
  congr 2
  omega

/-! ### what a call that writes one row leaves -/
theorem gb_refl (w : World) (r : Option Nat) : w.grownBy w r := ⟨rfl, rfl, rfl, Nat.le_refl _, fun _ _ _ => rfl⟩
theorem gb_alloc {a w : World} {r : Option Nat} (h : a.grownBy w r) (o : Obj) : a.grownBy (w.alloc o) r :=
  ⟨h.os, h.tape, h.output, by have := h.size; simp; omega, fun k hk hr => by rw [Below.heap_alloc w o k (by have := h.size; omega)]; exact h.block k hk hr⟩
theorem gb_setCell {a w : World} {g : Nat} (h : a.grownBy w (some g)) (j : Nat) (v : Value) : a.grownBy (w.setCell ⟨g, j, none⟩ v) (some g) :=
  ⟨h.os, h.tape, h.output, by have := h.size; simpa [World.setCell] using this, fun k hk hr => by rw [Below.heap_setCell w _ v k (fun e => hr (by rw [e]))]; exact h.block k hk hr⟩
theorem Row.grown {w w' : World} {r : Option Nat} {g : Nat} {vs : List Value} {t : TypeId} (h : Row w g vs t) (hg : w.grownBy w' r) (hne : some g ≠ r) : Row w' g vs t := by
  unfold Row
  rw [hg.block g h.lt hne]; exact h

set_option maxRecDepth 100000 in
set_option maxHeartbeats 2000000 in
theorem appendPadded_any (xs : List UInt8) (g n v wd : Nat) (h6 : wd ≤ 6) (hn : xs.length = n) (h32 : n + wd ≤ 32) (hv : v < 1000000) (w : World) (rg : Row w g (buf xs) 5) :
    Calls Try.prog 19 #[.slice (some ⟨g, 0, none⟩) n 32, .int .i64 v, .int .i64 wd] w fun e w' => e = .returned (.slice (some ⟨g, 0, none⟩) (n + wd) 32) ∧ Row w' g (buf (xs ++ pad wd v)) 5 ∧ w.grownBy w' (some g) := by
  have hgw := rg.lt
  replace rg := hide rg
  replace hn := hide hn
  have HS := hide (drow_start wd v)
  go_enter Try.func19, Try.ntmps19
  go_wp2
  go_loopw [1, 8] (fun v1 v8 wr => ∃ m : Nat, m ≤ wd ∧ v1 = .int .i64 (v / 10 ^ (wd - m) : Nat) ∧ v8 = .int .i64 ((m : Int) - 1) ∧ wr = w.alloc (.cells (drow wd v m).toArray 55)) (fun _ v8 _ => (intOf v8 + 1).toNat)
  case atStart => exact ⟨wd, Nat.le_refl _, by rw [Nat.sub_self]; simp, rfl, by rw [HS.out]⟩
  case round =>
    obtain ⟨m, hm, rfl, rfl, rfl⟩ := hrel
    clear HS
    by_cases hm0 : 0 < m
    · obtain ⟨m, rfl⟩ : ∃ q, m = q + 1 := ⟨m - 1, by omega⟩
      have t1 : ((m + 1 : Nat) : Int) - 1 = (m : Int) := by omega
      rw [t1]
      clear t1
      have hmi : (m : Int) < 6 := by omega
      have hc : (drow wd v (m + 1))[m]? = some (.int .u8 0) := by rw [drow_at _ _ _ _ (by omega), if_neg (by omega)]
      have HD := hide (drow_set wd v m (by omega) h6)
      have HQ := hide (dig_nat v (wd - 1 - m))
      rw [show wd - 1 - m = wd - (m + 1) from by omega] at HQ HD
      have HV := hide (div_step v wd m (by omega))
      have hu : v / 10 ^ (wd - (m + 1)) ≤ v := Nat.div_le_self _ _
      generalize v / 10 ^ (wd - (m + 1)) = u at *
      generalize drow wd v (m + 1) = D at *
      go_wp2
      go_roundw
      case rel =>
        go_light
        refine ⟨m, by omega, by rw [← HV.out]; go_num, rfl, ?_⟩
        rw [← HD.out, HQ.out]
        simp
      case measure => simp [intOf]
    · have t2 : m = 0 := by omega
      subst t2
      have e1 : ((0 : Nat) : Int) - 1 = -1 := rfl
      rw [e1]
      clear e1
      generalize v / 10 ^ (wd - 0) = u at *
      go_wp2
      go_loopw [0, 9] (fun v0 v9 wr => ∃ j : Nat, j ≤ wd ∧ v0 = .slice (some ⟨g, 0, none⟩) (n + j) 32 ∧ v9 = .int .i64 j ∧ Row wr g (buf (xs ++ (pad wd v).take j)) 5 ∧ Row wr w.heap.size (drow wd v 0) 55 ∧ w.grownBy wr (some g)) (fun _ v9 _ => wd - (intOf v9).toNat)
      case atStart =>
        go_light
        exact ⟨0, by omega, rfl, rfl, by rw [List.take_zero, List.append_nil]; exact rg.out.alloc _ hgw, Row.new w (drow wd v 0) 55 _ rfl, gb_alloc (gb_refl w _) _⟩
      case round =>
        obtain ⟨j, hj, rfl, rfl, r1, r2, hgb⟩ := hrel
        by_cases hjl : j < wd
        · have hji : (j : Int) < 6 := by omega
          have hl : (xs ++ (pad wd v).take j).length = n + j := by rw [List.length_append, hn.out, List.length_take, pad_len]; omega
          have cb := (r2.cell j).trans (drow_get wd v j hjl h6)
          have cb' := (r1.cell (n + j)).trans (buf_get _ _ hl (by omega))
          have fb := r1.frozen (n + j)
          have HT : Hid ((pad wd v).take (j + 1) = (pad wd v).take j ++ [dig v (wd - 1 - j)]) := by
            unfold Hid
            have hp := pad_get wd v j hjl
            rw [List.getElem?_eq_some_iff] at hp
            rw [List.take_succ_eq_append_getElem hp.1, hp.2]
          have HB := hide (buf_set (xs ++ (pad wd v).take j) (dig v (wd - 1 - j)) (n + j) hl (by omega))
          have hsz := r2.lt
          have hsg := r1.lt
          have hroom : n + j + 1 ≤ 32 := by omega
          replace r1 := hide r1
          replace r2 := hide r2
          replace hgb := hide hgb
          replace hl := hide hl
          generalize dig v (wd - 1 - j) = c at *
          go_wp2
          go_roundw
          case rel =>
            go_light
            refine ⟨j + 1, by omega, rfl, by go_num, ?_, (r2.out.setOther _ _ (by simp; omega)).alloc _ (by simpa [World.setCell] using hsz), gb_alloc (gb_setCell hgb.out _ _) _⟩
            have := r1.out.setCell (n + j) (.int .u8 (c.toNat : Int))
            rw [HB.out, List.append_assoc, ← HT.out] at this
            exact this.alloc _ (by simpa [World.setCell] using hsg)
          case measure => simp [intOf]; omega
        · have hje : j = wd := by omega
          subst hje
          rw [List.take_of_length_le (by rw [pad_len]; omega)] at r1
          replace r1 := hide r1
          replace r2 := hide r2
          replace hgb := hide hgb
          go_wp2
          go_ret
          exact ⟨rfl, r1.out, hgb.out⟩
end Go.Proofs.Qxb6601586a.Dt
