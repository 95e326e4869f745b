/-
  WALK: compactFields.
-/
import Derived.Test.Qxb6601586aDtD
import Derived.Deep.Light
namespace Go.Proofs.Qxb6601586a.Dt
open Go.RowKit

theorem ret_pair {a b c d : Value} (h : a = b) (h' : c = d) : Ending.returned (.tuple #[a, c]) = .returned (.tuple #[b, d]) := by rw [h, h']
theorem size7 (fs : List Fld) (h : fs.length = 7) : (rowOf fs).toArray.size = 21 := by simp [rowOf_len, h]
theorem extract_mid (s : ByteArray) (i w : Nat) : (s.extract i (i + w)).data.toList = (s.data.toList.drop i).take w := by
  simp only [ByteArray.data_extract, Array.toList_extract, List.extract_eq_take_drop]
  rw [Nat.add_sub_cancel_left]
theorem comp_len (l : List UInt8) (yw : Nat) : ∀ k, (comp l yw k).length = 7
  | 0 => rfl
  | k + 1 => by simp [comp, comp_len l yw k]

theorem beq_nat {x y : Int} (a b : Nat) (hx : x = a) (hy : y = b) : (x == y) = decide (a = b) := by
  subst hx; subst hy
  rw [Bool.eq_iff_iff, beq_iff_eq, decide_eq_true_iff]
  omega

/-- where field k begins -/
def posn (yw k : Nat) : Nat := if k = 0 then 0 else yw + 2 * (k - 1)
def wdt (yw k : Nat) : Nat := if k = 0 then yw else 2
theorem comp_succ (l : List UInt8) (yw k : Nat) : comp l yw (k + 1) = (comp l yw k).set k (at' l (posn yw k) (wdt yw k)) := by
  simp only [comp, posn, wdt]
  split <;> rfl
theorem posn_succ (yw k : Nat) : posn yw (k + 1) = posn yw k + wdt yw k := by
  unfold posn wdt
  rw [if_neg (by omega)]
  split <;> omega
def wrow (yw : Nat) : List Value := [.int .i64 yw, .int .i64 2, .int .i64 2, .int .i64 2, .int .i64 2, .int .i64 2]
theorem wrow_get (yw k : Nat) (h : k < 6) : (wrow yw)[k]? = some (.int .i64 (wdt yw k)) := by
  match k, h with
  | 0, _ => rfl
  | 1, _ => rfl
  | 2, _ => rfl
  | 3, _ => rfl
  | 4, _ => rfl
  | 5, _ => rfl

theorem posn_mono (yw k m : Nat) (h : k < m) : posn yw k + wdt yw k ≤ posn yw m := by
  rw [← posn_succ]
  unfold posn
  rw [if_neg (by omega), if_neg (by omega)]
  omega

/-- what a store of a field wants to know of the row, and what it leaves -/
theorem row_store {wr : World} {g k : Nat} {fs : List Fld} {t : TypeId} (r : Row wr g (rowOf fs) t) (hk : k < fs.length) (x : Fld) :
    (∃ y : Fld, wr.cell? ⟨g, k * 3, none⟩ = some (.int .i64 y.n) ∧ wr.cell? ⟨g, k * 3 + 1, none⟩ = some (.int .i64 y.w) ∧ wr.cell? ⟨g, k * 3 + 2, none⟩ = some (.int .u8 y.s)) ∧
    wr.frozen? ⟨g, k * 3, none⟩ = false ∧ wr.frozen? ⟨g, k * 3 + 1, none⟩ = false ∧ wr.frozen? ⟨g, k * 3 + 2, none⟩ = false ∧
    Row (((wr.setCell ⟨g, k * 3, none⟩ (.int .i64 x.n)).setCell ⟨g, k * 3 + 1, none⟩ (.int .i64 x.w)).setCell ⟨g, k * 3 + 2, none⟩ (.int .u8 x.s)) g (rowOf (fs.set k x)) t := by
  have hy := rowOf_get fs k fs[k] (by simp)
  refine ⟨⟨fs[k], (r.cell _).trans hy.1, (r.cell _).trans hy.2.1, (r.cell _).trans hy.2.2⟩, r.frozen _, r.frozen _, r.frozen _, ?_⟩
  have := ((r.setCell (k * 3) (.int .i64 x.n)).setCell (k * 3 + 1) (.int .i64 x.w)).setCell (k * 3 + 2) (.int .u8 x.s)
  rw [rowOf_set fs k x hk] at this
  exact this
theorem row_other3 {wr : World} {g g' k : Nat} {vs : List Value} {t : TypeId} (r : Row wr g vs t) (hne : g ≠ g') (a b c : Value) :
    Row (((wr.setCell ⟨g', k * 3, none⟩ a).setCell ⟨g', k * 3 + 1, none⟩ b).setCell ⟨g', k * 3 + 2, none⟩ c) g vs t :=
  ((r.setOther _ _ hne).setOther _ _ hne).setOther _ _ hne
theorem size3 (wr : World) (g k : Nat) (a b c : Value) : (((wr.setCell ⟨g, k * 3, none⟩ a).setCell ⟨g, k * 3 + 1, none⟩ b).setCell ⟨g, k * 3 + 2, none⟩ c).heap.size = wr.heap.size := by
  simp [World.setCell]
theorem below3 {B : Nat} {w wr : World} (h : Below B w wr) (g k : Nat) (hg : B ≤ g) (a b c : Value) : Below B w (((wr.setCell ⟨g, k * 3, none⟩ a).setCell ⟨g, k * 3 + 1, none⟩ b).setCell ⟨g, k * 3 + 2, none⟩ c) :=
  ((h.setCell hg _).setCell hg _).setCell hg _

/-- the world with the fraction's field stored, and the callee's two blocks behind it -/
def st6 (wr : World) (g : Nat) (x : Fld) : World := ((wr.setCell ⟨g, 18, none⟩ (.int .i64 x.n)).setCell ⟨g, 19, none⟩ (.int .i64 x.w)).setCell ⟨g, 20, none⟩ (.int .u8 x.s)
theorem row_store6 {wr : World} {g : Nat} {fs : List Fld} {t : TypeId} (r : Row wr g (rowOf fs) t) (h7 : fs.length = 7) (x : Fld) :
    (∃ y : Fld, wr.cell? ⟨g, 18, none⟩ = some (.int .i64 y.n) ∧ wr.cell? ⟨g, 19, none⟩ = some (.int .i64 y.w) ∧ wr.cell? ⟨g, 20, none⟩ = some (.int .u8 y.s)) ∧
    wr.frozen? ⟨g, 18, none⟩ = false ∧ wr.frozen? ⟨g, 19, none⟩ = false ∧ wr.frozen? ⟨g, 20, none⟩ = false ∧ Row (st6 wr g x) g (rowOf (fs.set 6 x)) t :=
  row_store r (k := 6) (by omega) x
theorem row_other6 {wr : World} {g g' : Nat} {vs : List Value} {t : TypeId} (r : Row wr g vs t) (hne : g ≠ g') (x : Fld) : Row (st6 wr g' x) g vs t :=
  row_other3 (k := 6) r hne _ _ _
theorem st6_size (wr : World) (g : Nat) (x : Fld) : (st6 wr g x).heap.size = wr.heap.size := by
  simp [st6, World.setCell]
theorem below6 {B : Nat} {w wr : World} (h : Below B w wr) (g : Nat) (hg : B ≤ g) (x : Fld) : Below B w (st6 wr g x) := below3 (k := 6) h g hg _ _ _
def xblk (x : Fld) : Obj := .cells #[.int .i64 x.n, .int .i64 x.w, .int .u8 x.s] 44
theorem row_two {W : World} {g : Nat} {vs : List Value} {t : TypeId} (r : Row W g vs t) (x : Fld) : Row ((W.alloc (xblk x)).alloc (xblk x)) g vs t :=
  (r.alloc _ r.lt).alloc _ (by rw [World.size_alloc]; have := r.lt; omega)
theorem below_two {B : Nat} {w W : World} (h : Below B w W) (hB : B ≤ W.heap.size) (x : Fld) : Below B w ((W.alloc (xblk x)).alloc (xblk x)) :=
  (h.alloc hB _).alloc (by rw [World.size_alloc]; omega) _

set_option maxRecDepth 100000 in
set_option maxHeartbeats 4000000 in
theorem compact_four (s : ByteArray) (ni : Int) (n yw cnt : Nat) (w : World) (hs : s.size ≤ maxLen) (hn : n ≤ s.size)
    (h : n = 6 ∧ yw = 2 ∧ cnt = 3 ∧ ni = 6 ∨ n = 12 ∧ yw = 2 ∧ cnt = 6 ∧ ni = 12 ∨ n = 8 ∧ yw = 4 ∧ cnt = 3 ∧ ni = 8 ∨ n = 14 ∧ yw = 4 ∧ cnt = 6 ∧ ni = 14) :
    Calls Try.prog 30 #[.string s, .int .i64 ni] w fun e w' => e = .returned (.tuple #[.agg (rowOf (compFin s.data.toList n (comp s.data.toList yw cnt)).1).toArray, .bool (compFin s.data.toList n (comp s.data.toList yw cnt)).2]) ∧ Below w.heap.size w w' := by
  have hs' := hide hs
  unfold maxLen at hs
  have HP : Hid (posn yw cnt = n) := by
    unfold Hid posn
    rcases h with ⟨rfl, rfl, rfl, rfl⟩ | ⟨rfl, rfl, rfl, rfl⟩ | ⟨rfl, rfl, rfl, rfl⟩ | ⟨rfl, rfl, rfl, rfl⟩ <;> rfl
  have hc6 : cnt ≤ 6 := by omega
  obtain ⟨Y, HY⟩ : ∃ Y, Hid (Y = yw) := ⟨_, hide rfl⟩
  obtain ⟨C, HC⟩ : ∃ C, Hid (C = cnt) := ⟨_, hide rfl⟩
  obtain ⟨N, HN⟩ : ∃ N, Hid (N = n) := ⟨_, hide rfl⟩
  have HP2 : Hid (posn Y C = N) := by unfold Hid; rw [HY.out, HC.out, HN.out]; exact HP.out
  have hNs : N ≤ s.size := by rw [HN.out]; exact hn
  have hC6 : C ≤ 6 := by rw [HC.out]; exact hc6
  have hC0 : 3 ≤ C := by rw [HC.out]; omega
  have HG : Hid (compFin s.data.toList n (comp s.data.toList yw cnt) = compFin s.data.toList N (comp s.data.toList Y C)) := by unfold Hid; rw [HY.out, HC.out, HN.out]
  obtain ⟨R, HR⟩ : ∃ R, Hid (compFin s.data.toList N (comp s.data.toList Y C) = R) := ⟨_, hide rfl⟩
  rw [HG.out, HR.out]
  clear HG HP hn hc6
  rcases h with ⟨rfl, rfl, rfl, rfl⟩ | ⟨rfl, rfl, rfl, rfl⟩ | ⟨rfl, rfl, rfl, rfl⟩ | ⟨rfl, rfl, rfl, rfl⟩
  all_goals
    go_enter Try.func30, Try.ntmps30
    go_wp2
    go_loopw [8, 28] (fun v8 v28 wr => ∃ k : Nat, k ≤ C ∧ Row wr w.heap.size (rowOf zero7) 45 ∧ Row wr (w.heap.size + 1) (rowOf (comp s.data.toList Y k)) 45 ∧ Row wr (w.heap.size + 2) (wrow Y) 3 ∧ Below w.heap.size w wr ∧ v8 = .int .i64 (posn Y k) ∧ v28 = .int .i64 k) (fun _ v28 _ => 6 - (intOf v28).toNat)
    case atStart =>
      refine ⟨0, by omega, ((Row.new w (rowOf zero7) 45 _ rfl).alloc _ (by simp <;> omega)).alloc _ (by simp <;> omega), (Row.new _ (rowOf zero7) 45 _ (by simp <;> omega)).alloc _ (by simp <;> omega), ?_, (((Below.refl _ _).alloc (by simp <;> omega) _).alloc (by simp <;> omega) _).alloc (by simp <;> omega) _, rfl, rfl⟩
      rw [HY.out]
      exact Row.new _ (wrow _) 3 _ (by simp <;> omega)
    case round =>
      obtain ⟨k, hk, r0, r1, r2, hb, rfl, rfl⟩ := hrel
      by_cases hlt : k < C
      · have hpm := posn_mono Y k C hlt
        rw [HP2.out] at hpm
        have hwd : wdt Y k ≤ 4 := by unfold wdt; have := HY.out; split <;> omega
        have cw := (r2.cell k).trans (wrow_get Y k (by omega))
        have HD := hide (fun w => digitField_any (s.extract (posn Y k) (posn Y k + wdt Y k)) w (extract_le s _ _ hs'.out))
        rw [extract_mid] at HD
        simp only [Fld.arr] at HD
        have HN2 := hide (posn_succ Y k)
        have HC2 := hide (comp_succ s.data.toList Y k)
        have hl7 := comp_len s.data.toList Y k
        rw [show at' s.data.toList (posn Y k) (wdt Y k) = fld ((s.data.toList.drop (posn Y k)).take (wdt Y k)) from rfl] at HC2
        generalize posn Y k = i at *
        generalize wdt Y k = q at *
        generalize fld ((s.data.toList.drop i).take q) = x at *
        generalize comp s.data.toList Y k = fs at *
        obtain ⟨⟨y, d0, d1, d2⟩, f0, f1, f2, RS⟩ := row_store r1 (k := k) (by omega) x
        replace RS := hide RS
        have hsz := r2.lt
        have hsz1 : w.heap.size + 1 < wr.heap.size := by omega
        have hsz0 : w.heap.size < wr.heap.size := by omega
        replace r0 := hide r0
        replace r1 := hide r1
        replace r2 := hide r2
        have hlt3 := hlt
        rw [HC.out] at hlt3
        go_wp2_with fail
        refine (HD.out _).mono ?_; rintro e w' ⟨rfl, rfl⟩
        go_wp2
        go_roundw
        case rel =>
          go_light
          refine ⟨k + 1, by omega, ?_, ?_, ?_, ?_, ?_, by go_num⟩
          · exact row_two (row_other3 r0.out (by omega) _ _ _) x
          · rw [HC2.out]
            exact row_two RS.out x
          · exact row_two (row_other3 r2.out (by omega) _ _ _) x
          · exact below_two (below3 hb _ _ (by omega) _ _ _) (by rw [size3]; omega) x
          · rw [HN2.out]; go_num
        case measure => simp [intOf]; omega
      · have hkC : k = C := by omega
        subst hkC
        rw [HP2.out]
        clear hlt
        have hl7 := comp_len s.data.toList Y k
        have hsz := r2.lt
        have hsz1 : w.heap.size + 1 < wr.heap.size := by omega
        have hsz0 : w.heap.size < wr.heap.size := by omega
        have hge := Nat.le_of_eq HC.out.symm
        have z7 : Hid ((rowOf zero7).toArray.size = 21) := by unfold Hid; rfl
        by_cases hlt : N < s.size
        · have HD := hide (fun w => digitField_any (s.extract (N + 1) s.size) w (extract_le s _ _ hs'.out))
          rw [extract_drop] at HD
          simp only [Fld.arr] at HD
          have HF : Hid (R = ((comp s.data.toList Y k).set 6 (fld (s.data.toList.drop (N + 1))), decide (N + (1 + Num.nd (s.data.toList.drop (N + 1))) = s.size))) := by
            unfold Hid; rw [← HR.out]; unfold compFin; rw [if_pos (by simpa using hlt)]; simp
          have HW := hide (fld_w (s.data.toList.drop (N + 1)))
          have hnd := nd_le (s.data.toList.drop (N + 1))
          rw [show (s.data.toList.drop (N + 1)).length = s.size - (N + 1) from by simp] at hnd
          generalize comp s.data.toList Y k = fs at *
          generalize Num.nd (s.data.toList.drop (N + 1)) = q at *
          generalize fld (s.data.toList.drop (N + 1)) = x at *
          obtain ⟨⟨y, d0, d1, d2⟩, f0, f1, f2, RS⟩ := row_store6 r1 hl7 x
          have RA := row_two RS x
          have RB := row_two (row_other6 r0 (g' := w.heap.size + 1) (by omega) x) x
          have RC := below_two (below6 hb (w.heap.size + 1) (by omega) x) (by rw [st6_size]; omega) x
          unfold st6 xblk at RA RB RC
          have hqx : x.w ≤ s.size - (N + 1) := by rw [HW.out]; exact hnd
          replace RA := hide RA
          replace RB := hide RB
          replace RC := hide RC
          clear RS
          replace r0 := hide r0
          replace r1 := hide r1
          replace r2 := hide r2
          go_wp2_with fail
          refine (HD.out _).mono ?_; rintro e w' ⟨rfl, rfl⟩
          have hfs : Hid ((rowOf (fs.set 6 x)).toArray.size = 21) := size7 _ (by simpa using hl7)
          have hone := hide (rowOf_one (fs.set 6 x))
          go_wp2_with (first | (refine wpList_load_row rfl 45 (.tmp 6) rfl (w.heap.size + 1) rfl 45 (rowOf (fs.set 6 x)).toArray (0, 0) _ ?_ Try.underlying45 rfl ?_ ?_) | (refine wpList_store_row rfl 45 (.tmp 4) _ rfl w.heap.size (rowOf (fs.set 6 x)).toArray rfl rfl 45 (rowOf zero7).toArray ?_ ?_ ?_ hone.out ?_))
          · exact RA.out
          · rw [hfs.out]; kernel_rfl
          · exact RB.out
          · rw [hfs.out]; kernel_rfl
          · rw [hfs.out]; exact z7.out
          refine ret_row2 rfl w.heap.size 45 (rowOf (fs.set 6 x)) _ rfl (RB.out.setRow _) Try.underlying45 rfl (by rw [hfs.out]; kernel_rfl) rfl ⟨?_, ?_⟩
          · rw [HF.out, ← HW.out]
            refine ret_pair rfl ?_
            show Value.bool ((N : Int) + (1 + (x.w : Int)) == (s.size : Int)) = Value.bool (decide (N + (1 + x.w) = s.size))
            rw [beq_nat (N + (1 + x.w)) s.size (by omega) rfl]
          · exact below_setRow RC.out w.heap.size (by omega) (rowOf (fs.set 6 x)).toArray
        · have HF : Hid (R = (comp s.data.toList Y k, decide (N = s.size))) := by
            unfold Hid; rw [← HR.out]; unfold compFin; rw [if_neg (by simpa using hlt)]; simp
          generalize comp s.data.toList Y k = fs at *
          have hfs := hide (size7 fs hl7)
          have hone := hide (rowOf_one fs)
          replace r0 := hide r0
          replace r1 := hide r1
          replace r2 := hide r2
          go_wp2_with (first | (refine wpList_load_row rfl 45 (.tmp 6) rfl (w.heap.size + 1) rfl 45 (rowOf fs).toArray (0, 0) _ ?_ Try.underlying45 rfl ?_ ?_) | (refine wpList_store_row rfl 45 (.tmp 4) _ rfl w.heap.size (rowOf fs).toArray rfl rfl 45 (rowOf zero7).toArray ?_ ?_ ?_ hone.out ?_))
          · exact r1.out
          · rw [hfs.out]; kernel_rfl
          · exact r0.out
          · rw [hfs.out]; kernel_rfl
          · rw [hfs.out]; exact z7.out
          refine ret_row2 rfl w.heap.size 45 (rowOf fs) _ rfl (r0.out.setRow _) Try.underlying45 rfl (by rw [hfs.out]; kernel_rfl) rfl ⟨?_, ?_⟩
          · rw [HF.out]
            refine ret_pair rfl ?_
            show Value.bool ((N : Int) == (s.size : Int)) = Value.bool (decide (N = s.size))
            rw [beq_nat N s.size rfl rfl]
          · exact below_setRow hb _ (by omega) _
end Go.Proofs.Qxb6601586a.Dt
