/-
  WALK: FnDateTimeFieldsRoundTrip, its first loop.
-/
import Derived.Test.Qxb6601586aDtJ
import Derived.Test.Qxb6601586aDtP
import Derived.Deep.RegionHeld3
namespace Go.Proofs.Qxb6601586a.Dt
open Go.RowKit
set_option linter.unusedVariables false
set_option linter.unusedSimpArgs false

/-- the seven numbers -/
structure Inp where
  y : Nat
  mo : Nat
  d : Nat
  h : Nat
  mi : Nat
  sc : Nat
  us : Nat
  p : UInt8
  q : UInt8
def Inp.Ok (I : Inp) : Prop := I.y ≤ 9999 ∧ I.mo ≤ 99 ∧ I.d ≤ 99 ∧ I.h ≤ 99 ∧ I.mi ≤ 99 ∧ I.sc ≤ 99 ∧ I.us ≤ 999999
def Inp.vf (I : Inp) : Nat → Nat
  | 0 => I.y
  | 1 => I.mo
  | 2 => I.d
  | 3 => I.h
  | 4 => I.mi
  | 5 => I.sc
  | _ => I.us
def wf : Nat → Nat
  | 0 => 4
  | 1 => 2
  | 2 => 2
  | 3 => 2
  | 4 => 2
  | 5 => 2
  | _ => 6
def Inp.sf (I : Inp) : Nat → UInt8
  | 0 => 0
  | 1 => I.p
  | 2 => I.p
  | 3 => I.q
  | 4 => I.p
  | 5 => I.p
  | _ => 46
def Inp.vrow (I : Inp) : List Value := [.int .i64 I.y, .int .i64 I.mo, .int .i64 I.d, .int .i64 I.h, .int .i64 I.mi, .int .i64 I.sc, .int .i64 I.us]
def wdrow : List Value := [.int .i64 4, .int .i64 2, .int .i64 2, .int .i64 2, .int .i64 2, .int .i64 2, .int .i64 6]
def Inp.srow (I : Inp) : List Value := [.int .u8 0, .int .u8 I.p.toNat, .int .u8 I.p.toNat, .int .u8 I.q.toNat, .int .u8 I.p.toNat, .int .u8 I.p.toNat, .int .u8 46]
theorem vrow_get (I : Inp) (k : Nat) (h : k < 7) : I.vrow[k]? = some (.int .i64 (I.vf k)) := by
  match k, h with
  | 0, _ => rfl
  | 1, _ => rfl
  | 2, _ => rfl
  | 3, _ => rfl
  | 4, _ => rfl
  | 5, _ => rfl
  | 6, _ => rfl
theorem wdrow_get (k : Nat) (h : k < 7) : wdrow[k]? = some (.int .i64 (wf k)) := by
  match k, h with
  | 0, _ => rfl
  | 1, _ => rfl
  | 2, _ => rfl
  | 3, _ => rfl
  | 4, _ => rfl
  | 5, _ => rfl
  | 6, _ => rfl
theorem srow_get (I : Inp) (k : Nat) (h : k < 7) : I.srow[k]? = some (.int .u8 (I.sf k).toNat) := by
  match k, h with
  | 0, _ => rfl
  | 1, _ => rfl
  | 2, _ => rfl
  | 3, _ => rfl
  | 4, _ => rfl
  | 5, _ => rfl
  | 6, _ => rfl
/-- the separator ahead of part k, in the delimited and in the compact text -/
def Inp.ds (I : Inp) (k : Nat) : List UInt8 := if 0 < k then [I.sf k] else []
def cs (k : Nat) : List UInt8 := if k = 6 then [46] else []
def Inp.dl (I : Inp) : Nat → List UInt8
  | 0 => []
  | k + 1 => (I.dl k ++ I.ds k) ++ pad (wf k) (I.vf k)
def Inp.cl (I : Inp) : Nat → List UInt8
  | 0 => []
  | k + 1 => (I.cl k ++ cs k) ++ pad (wf k) (I.vf k)
theorem wf_le (k : Nat) : wf k ≤ 6 := by
  unfold wf; split <;> omega
theorem dl_len (I : Inp) (k : Nat) (h : k < 7) : (I.dl k).length + 1 + wf k ≤ 26 := by
  match k, h with
  | 0, _ => simp [Inp.dl, Inp.ds, pad_len, wf]
  | 1, _ => simp [Inp.dl, Inp.ds, pad_len, wf]
  | 2, _ => simp [Inp.dl, Inp.ds, pad_len, wf]
  | 3, _ => simp [Inp.dl, Inp.ds, pad_len, wf]
  | 4, _ => simp [Inp.dl, Inp.ds, pad_len, wf]
  | 5, _ => simp [Inp.dl, Inp.ds, pad_len, wf]
  | 6, _ => simp [Inp.dl, Inp.ds, pad_len, wf]
theorem cl_len (I : Inp) (k : Nat) (h : k < 7) : (I.cl k).length + 1 + wf k ≤ 26 := by
  match k, h with
  | 0, _ => simp [Inp.cl, cs, pad_len, wf]
  | 1, _ => simp [Inp.cl, cs, pad_len, wf]
  | 2, _ => simp [Inp.cl, cs, pad_len, wf]
  | 3, _ => simp [Inp.cl, cs, pad_len, wf]
  | 4, _ => simp [Inp.cl, cs, pad_len, wf]
  | 5, _ => simp [Inp.cl, cs, pad_len, wf]
  | 6, _ => simp [Inp.cl, cs, pad_len, wf]
theorem vf_lt (I : Inp) (hI : I.Ok) (k : Nat) : I.vf k < 1000000 := by
  obtain ⟨h1, h2, h3, h4, h5, h6, h7⟩ := hI
  unfold Inp.vf
  split <;> omega

theorem make32 (w : World) : (Instr.makeSlice 39 (.int .i64 0) (.int .i64 32)).run Try.prog w = .ok (.slice (some ⟨w.heap.size, 0, none⟩) 0 32) (w.alloc (.cells (buf []).toArray 5)) := by kernel_rfl

/-- the five blocks that the law lays -/
def V5 (w : World) (I : Inp) : World := ((((w.alloc (.cells I.vrow.toArray 37)).alloc (.cells wdrow.toArray 37)).alloc (.cells I.srow.toArray 38)).alloc (.cells (buf []).toArray 5)).alloc (.cells (buf []).toArray 5)
theorem V5_size (w : World) (I : Inp) : (V5 w I).heap.size = w.heap.size + 5 := by simp [V5]
theorem V5_0 (w : World) (I : Inp) : Row (V5 w I) w.heap.size I.vrow 37 :=
  ((((Row.new w I.vrow 37 _ rfl).alloc _ (by simp <;> omega)).alloc _ (by simp <;> omega)).alloc _ (by simp <;> omega)).alloc _ (by simp <;> omega)
theorem V5_1 (w : World) (I : Inp) : Row (V5 w I) (w.heap.size + 1) wdrow 37 :=
  (((Row.new _ wdrow 37 _ (by simp <;> omega)).alloc _ (by simp <;> omega)).alloc _ (by simp <;> omega)).alloc _ (by simp <;> omega)
theorem V5_2 (w : World) (I : Inp) : Row (V5 w I) (w.heap.size + 2) I.srow 38 :=
  ((Row.new _ I.srow 38 _ (by simp <;> omega)).alloc _ (by simp <;> omega)).alloc _ (by simp <;> omega)
theorem V5_3 (w : World) (I : Inp) : Row (V5 w I) (w.heap.size + 3) (buf []) 5 :=
  (Row.new _ (buf []) 5 _ (by simp <;> omega)).alloc _ (by simp <;> omega)
theorem V5_4 (w : World) (I : Inp) : Row (V5 w I) (w.heap.size + 4) (buf []) 5 :=
  Row.new _ (buf []) 5 _ (by simp <;> omega)
theorem V5_below (w : World) (I : Inp) : Below w.heap.size w (V5 w I) :=
  (((((Below.refl _ _).alloc (by simp <;> omega) _).alloc (by simp <;> omega) _).alloc (by simp <;> omega) _).alloc (by simp <;> omega) _).alloc (by simp <;> omega) _

theorem two_steps {B : Nat} {w' X w1 w2 : World} {I : Inp} {L3 : List Value} (r0 : Row X B I.vrow 37) (r1 : Row X (B + 1) wdrow 37) (r2 : Row X (B + 2) I.srow 38) (hb : Below B w' X)
    (gb1 : X.drew.grownBy w1 (some (B + 3))) (s3 : Row w1 (B + 3) L3 5) (gb2 : w1.drew.grownBy w2 (some (B + 4))) :
    Row w2 B I.vrow 37 ∧ Row w2 (B + 1) wdrow 37 ∧ Row w2 (B + 2) I.srow 38 ∧ Row w2 (B + 3) L3 5 ∧ Below B w' w2 := by
  have h0 := r0.lt
  have h1 : B ≤ w1.heap.size := by have := gb1.size; have e : X.drew.heap.size = X.heap.size := rfl; omega
  refine ⟨(r0.drew.grown gb1 (by simp)).drew.grown gb2 (by simp), (r1.drew.grown gb1 (by simp)).drew.grown gb2 (by simp), (r2.drew.grown gb1 (by simp)).drew.grown gb2 (by simp), s3.drew.grown gb2 (by simp), ?_⟩
  exact ((hb.drew.grown gb1 (by have e : X.drew.heap.size = X.heap.size := rfl; omega) (by intro k h; cases h; omega)).drew).grown gb2 (by have e : w1.drew.heap.size = w1.heap.size := rfl; omega) (by intro k h; cases h; omega)
/-- a byte appended to a row that has room -/
def ap (wr : World) (g n : Nat) (c : Value) : World := (wr.setCell ⟨g, n, none⟩ c).alloc (.cells #[c] 5)
theorem ap_other {wr : World} {g g' n : Nat} {vs : List Value} {t : TypeId} (r : Row wr g vs t) (hne : g ≠ g') (c : Value) : Row (ap wr g' n c) g vs t :=
  (r.setOther _ _ hne).alloc _ (by have := r.lt; simpa [World.setCell] using this)
theorem ap_same {wr : World} {g n : Nat} {xs : List UInt8} (r : Row wr g (buf xs) 5) (hn : xs.length = n) (h : n < 32) (c : UInt8) : Row (ap wr g n (.int .u8 (c.toNat : Int))) g (buf (xs ++ [c])) 5 := by
  have := r.setCell n (.int .u8 (c.toNat : Int))
  rw [buf_set xs c n hn h] at this
  exact this.alloc _ (by have := r.lt; simpa [World.setCell] using this)
theorem ap_below {B : Nat} {w wr : World} (h : Below B w wr) (g n : Nat) (hg : B ≤ g) (hB : B ≤ wr.heap.size) (c : Value) : Below B w (ap wr g n c) :=
  (h.setCell hg _).alloc (by simpa [World.setCell] using hB) _
theorem ap_two (wr : World) (g g' n m : Nat) (c d : Value) (hg : g' < wr.heap.size) : ap (ap wr g n c) g' m d = (((wr.setCell ⟨g, n, none⟩ c).setCell ⟨g', m, none⟩ d).alloc (.cells #[c] 5)).alloc (.cells #[d] 5) := by
  unfold ap
  rw [World.setCell_alloc_past _ g' m d (by simpa [World.setCell] using hg)]

theorem zrow : (rowOf zero7).toArray = #[.int .i64 0, .int .i64 0, .int .u8 0, .int .i64 0, .int .i64 0, .int .u8 0, .int .i64 0, .int .i64 0, .int .u8 0, .int .i64 0, .int .i64 0, .int .u8 0, .int .i64 0, .int .i64 0, .int .u8 0, .int .i64 0, .int .i64 0, .int .u8 0, .int .i64 0, .int .i64 0, .int .u8 0] := rfl
/-- a row of fields laid in a new block -/
def nw (w : World) (F : List Fld) : World := (w.alloc (.cells (rowOf zero7).toArray 28)).setRow w.heap.size (rowOf F).toArray
theorem nw_size (w : World) (F : List Fld) : (nw w F).heap.size = w.heap.size + 1 := by simp [nw]
theorem nw_row (w : World) (F : List Fld) : Row (nw w F) w.heap.size (rowOf F) 28 := (Row.new w (rowOf zero7) 28 _ rfl).setRow (rowOf F)
theorem nw_old {w : World} {g : Nat} {vs : List Value} {t : TypeId} (r : Row w g vs t) (F : List Fld) : Row (nw w F) g vs t :=
  (r.alloc _ r.lt).setRowOther _ _ (by have := r.lt; omega)
theorem nw_below {B : Nat} {w w1 : World} (h : Below B w w1) (hB : B ≤ w1.heap.size) (F : List Fld) : Below B w (nw w1 F) :=
  below_setRow (h.alloc hB _) _ hB _

theorem row1 {w : World} {g : Nat} {vs : List Value} {t : TypeId} (r : Row w g vs t) (A : Obj) : Row (w.alloc A) g vs t := r.alloc A r.lt
theorem row5 {w : World} {g : Nat} {vs : List Value} {t : TypeId} (r : Row w g vs t) (A B C D E : Obj) : Row (((((w.alloc A).alloc B).alloc C).alloc D).alloc E) g vs t := row1 (row1 (row1 (row1 (row1 r A) B) C) D) E
theorem below5 {b : Nat} {a w : World} (h : Below b a w) (hB : b ≤ w.heap.size) (A B C D E : Obj) : Below b a (((((w.alloc A).alloc B).alloc C).alloc D).alloc E) :=
  ((((h.alloc hB A).alloc (by simp; omega) B).alloc (by simp; omega) C).alloc (by simp; omega) D).alloc (by simp; omega) E
/-- the fields that both texts give -/
def Inp.flds (I : Inp) : List Fld := [⟨I.y, 4, 0⟩, ⟨I.mo, 2, 0⟩, ⟨I.d, 2, 0⟩, ⟨I.h, 2, 0⟩, ⟨I.mi, 2, 0⟩, ⟨I.sc, 2, 0⟩, ⟨I.us, 6, 0⟩]
theorem flds_get (I : Inp) (k : Nat) (h : k < 7) : I.flds[k]? = some ⟨I.vf k, wf k, 0⟩ := by
  match k, h with
  | 0, _ => rfl
  | 1, _ => rfl
  | 2, _ => rfl
  | 3, _ => rfl
  | 4, _ => rfl
  | 5, _ => rfl
  | 6, _ => rfl
theorem dtf_dl7 (I : Inp) (hI : I.Ok) (hp : punct I.p = true) (hq : I.q = 32 ∨ I.q = 84) : dtf (I.dl 7) = (I.flds, true) := by
  obtain ⟨h1, h2, h3, h4, h5, h6, h7⟩ := hI
  have e : I.dl 7 = pad 4 I.y ++ I.p :: (pad 2 I.mo ++ I.p :: (pad 2 I.d ++ I.q :: (pad 2 I.h ++ I.p :: (pad 2 I.mi ++ I.p :: (pad 2 I.sc ++ 46 :: (pad 6 I.us ++ [])))))) := by
    simp [Inp.dl, Inp.ds, Inp.sf, Inp.vf, wf]
  rw [e]
  exact dtf_dl I.y I.mo I.d I.h I.mi I.sc I.us I.p I.q h1 h2 h3 h4 h5 h6 h7 hp hq
theorem dtf_cl7 (I : Inp) (hI : I.Ok) : dtf (I.cl 7) = (I.flds, true) := by
  obtain ⟨h1, h2, h3, h4, h5, h6, h7⟩ := hI
  have e : I.cl 7 = pad 4 I.y ++ (pad 2 I.mo ++ (pad 2 I.d ++ (pad 2 I.h ++ (pad 2 I.mi ++ (pad 2 I.sc ++ 46 :: (pad 6 I.us ++ [])))))) := by
    simp [Inp.cl, cs, Inp.vf, wf]
  rw [e]
  exact dtf_cl I.y I.mo I.d I.h I.mi I.sc I.us h1 h2 h3 h4 h5 h6 h7
theorem dl7_len (I : Inp) : (I.dl 7).length = 26 := by simp [Inp.dl, Inp.ds, pad_len, wf]
theorem cl7_len (I : Inp) : (I.cl 7).length = 21 := by simp [Inp.cl, cs, pad_len, wf]
theorem conv_buf {w : World} {g : Nat} {xs : List UInt8} (r : Row w g (buf xs) 5) (n : Nat) (hn : xs.length = n) : (Go.convert 39 9 (.slice (some ⟨g, 0, none⟩) n 32)).run Try.prog w = .ok (.string ⟨xs.toArray⟩) w := by
  subst hn
  refine run_convert_bytes_back w 39 9 5 ⟨g, 0, none⟩ 32 xs Try.underlying39 Try.underlying5 Try.underlying9 ?_
  intro j hj
  rw [Addr.add_mid, Nat.zero_add, r.cell j, buf_read xs j hj]
theorem zz_list (xs : List UInt8) (hl : xs.length ≤ 32) (F : List Fld) (hd : dtf xs = (F, true)) (w : World) :
    Calls Try.prog 15 #[.string ⟨xs.toArray⟩] w fun e w' => e = .returned (.tuple #[.agg (rowOf F).toArray, .bool true]) ∧ Below w.heap.size w w' := by
  have hs : (⟨xs.toArray⟩ : ByteArray).size ≤ maxLen := by
    show xs.toArray.size ≤ maxLen
    unfold maxLen
    simp
    omega
  have := zzdtf_any ⟨xs.toArray⟩ w hs
  have e : (⟨xs.toArray⟩ : ByteArray).data.toList = xs := rfl
  rw [e, hd] at this
  exact this

set_option maxRecDepth 100000 in
set_option maxHeartbeats 4000000 in
theorem trip_in (I : Inp) (hI : I.Ok) (hp : punct I.p = true) (t : Bool) (hq : I.q = if t then 84 else 32) (w : World) :
    Calls Try.prog 7 #[.int .i64 I.y, .int .i64 I.mo, .int .i64 I.d, .int .i64 I.h, .int .i64 I.mi, .int .i64 I.sc, .int .i64 I.us, .int .u8 I.p.toNat, .bool t] w fun e w' => e = .returned (.bool true) ∧ Below w.heap.size w w' := by
  have HI := hide hI
  obtain ⟨h1, h2, h3, h4, h5, h6, h7⟩ := hI
  have a1 : decide ((I.y : Int) < 0) = false := decide_eq_false (by omega)
  have a2 : decide ((I.mo : Int) < 0) = false := decide_eq_false (by omega)
  have a3 : decide ((I.d : Int) < 0) = false := decide_eq_false (by omega)
  have a4 : decide ((I.h : Int) < 0) = false := decide_eq_false (by omega)
  have a5 : decide ((I.mi : Int) < 0) = false := decide_eq_false (by omega)
  have a6 : decide ((I.sc : Int) < 0) = false := decide_eq_false (by omega)
  have a7 : decide ((I.us : Int) < 0) = false := decide_eq_false (by omega)
  have b1 : decide ((9999 : Int) < (I.y : Int)) = false := decide_eq_false (by omega)
  have b2 : decide ((99 : Int) < (I.mo : Int)) = false := decide_eq_false (by omega)
  have b3 : decide ((99 : Int) < (I.d : Int)) = false := decide_eq_false (by omega)
  have b4 : decide ((99 : Int) < (I.h : Int)) = false := decide_eq_false (by omega)
  have b5 : decide ((99 : Int) < (I.mi : Int)) = false := decide_eq_false (by omega)
  have b6 : decide ((99 : Int) < (I.sc : Int)) = false := decide_eq_false (by omega)
  have b7 : decide ((999999 : Int) < (I.us : Int)) = false := decide_eq_false (by omega)
  have hmk := make32
  have HQ : Hid (I.q = if t then 84 else 32) := hq
  clear hq
  cases t
  all_goals
    go_enter Try.func7, Try.ntmps7
    go_wp2_with (go_at_call 18; refine (zzPunct_any _ _).mono ?_; rintro e w' ⟨rfl, rfl⟩)
    clear a1 a2 a3 a4 a5 a6 a7 b1 b2 b3 b4 b5 b6 b7 hmk h1 h2 h3 h4 h5 h6 h7
    go_loopw [23, 24, 25] (fun v23 v24 v25 wr => ∃ k n m : Nat, k ≤ 7 ∧ (I.dl k).length = n ∧ (I.cl k).length = m ∧ v23 = .slice (some ⟨w'.heap.size + 3, 0, none⟩) n 32 ∧ v24 = .slice (some ⟨w'.heap.size + 4, 0, none⟩) m 32 ∧ v25 = .int .i64 k ∧
      Row wr w'.heap.size I.vrow 37 ∧ Row wr (w'.heap.size + 1) wdrow 37 ∧ Row wr (w'.heap.size + 2) I.srow 38 ∧ Row wr (w'.heap.size + 3) (buf (I.dl k)) 5 ∧ Row wr (w'.heap.size + 4) (buf (I.cl k)) 5 ∧ Below w'.heap.size w' wr) (fun _ _ v25 _ => 7 - (intOf v25).toNat)
    case atStart =>
      go_light
      have e : ∀ z : Int, z = (I.q.toNat : Int) → ((w'.alloc (.cells I.vrow.toArray 37)).alloc (.cells wdrow.toArray 37)).alloc (.cells I.srow.toArray 38) = ((w'.alloc (.cells I.vrow.toArray 37)).alloc (.cells wdrow.toArray 37)).alloc (.cells #[.int .u8 0, .int .u8 I.p.toNat, .int .u8 I.p.toNat, .int .u8 z, .int .u8 I.p.toNat, .int .u8 I.p.toNat, .int .u8 46] 38) := by
        rintro z rfl
        rfl
      have r2 := V5_2 w' I
      have r0 := V5_0 w' I
      have r1 := V5_1 w' I
      have r3 := V5_3 w' I
      have r4 := V5_4 w' I
      have hb := V5_below w' I
      unfold V5 at r0 r1 r2 r3 r4 hb
      first | rw [e 32 (by rw [HQ.out]; rfl)] at r0 r1 r2 r3 r4 hb | rw [e 84 (by rw [HQ.out]; rfl)] at r0 r1 r2 r3 r4 hb
      exact ⟨0, 0, 0, by omega, rfl, rfl, rfl, rfl, rfl, r0, r1, r2, r3, r4, hb⟩
    case round =>
      obtain ⟨k, n, m, hk, hn, hm, rfl, rfl, rfl, r0, r1, r2, r3, r4, hb⟩ := hrel
      by_cases hk7 : k < 7
      · have hl := dl_len I k hk7
        have hc := cl_len I k hk7
        rw [hn] at hl
        rw [hm] at hc
        have cv := (r0.cell k).trans (vrow_get I k hk7)
        have cw := (r1.cell k).trans (wdrow_get k hk7)
        have cp := (r2.cell k).trans (srow_get I k hk7)
        have hv := vf_lt I HI.out k
        have hw6 := wf_le k
        have hki : (k : Int) < 7 := by omega
        have hki0 : (0 : Int) ≤ (k : Int) := by omega
        have hsz := r4.lt
        have hsz3 : w'.heap.size + 3 < wr.heap.size := by omega
        replace hn := hide hn
        replace hm := hide hm
        replace r0 := hide r0
        replace r1 := hide r1
        replace r2 := hide r2
        replace r3 := hide r3
        replace r4 := hide r4
        by_cases hk0 : k = 0
        · have t0 : ¬ 0 < k := by omega
          have t0' : ¬ (0 : Int) < (k : Int) := by omega
          have t6 : ((k : Int) == 6) = false := beq_eq_false_iff_ne.2 (by omega)
          have HX : Hid (I.dl (k + 1) = I.dl k ++ pad (wf k) (I.vf k)) := by unfold Hid; show (I.dl k ++ I.ds k) ++ _ = _; unfold Inp.ds; rw [if_neg t0, List.append_nil]
          have HY : Hid (I.cl (k + 1) = I.cl k ++ pad (wf k) (I.vf k)) := by unfold Hid; show (I.cl k ++ cs k) ++ _ = _; unfold cs; rw [if_neg (by omega), List.append_nil]
          clear hk0
          go_wp2_with fail
          go_region_held3 (fun x => x.cell? ⟨w'.heap.size, k, none⟩ = some (.int .i64 (I.vf k)) ∧ x.cell? ⟨w'.heap.size + 1, k, none⟩ = some (.int .i64 (wf k))) (go_keep) (first | (go_at_call 19; refine (appendPadded_any (I.dl k) (w'.heap.size + 3) (n) (I.vf k) (wf k) hw6 (hn.out) (by omega) hv (wr).drew r3.out.drew).mono ?_; rintro e w1 ⟨rfl, s3, gb⟩; have q0 := r0.out.drew.grown gb (by simp); have q1 := r1.out.drew.grown gb (by simp); have q4 := r4.out.drew.grown gb (by simp); have cv1 := (q0.cell k).trans (vrow_get I k hk7); have cw1 := (q1.cell k).trans (wdrow_get k hk7); clear q0 q1; replace q4 := hide q4; replace s3 := hide s3; replace gb := hide gb))
          go_wp2_with fail
          go_region_held3 (fun x => x.cell? ⟨w'.heap.size, k, none⟩ = some (.int .i64 (I.vf k)) ∧ x.cell? ⟨w'.heap.size + 1, k, none⟩ = some (.int .i64 (wf k))) (go_keep) (first | (go_at_call 19; refine (appendPadded_any (I.cl k) (w'.heap.size + 4) (m) (I.vf k) (wf k) hw6 (hm.out) (by omega) hv w1.drew q4.out.drew).mono ?_; rintro e w2 ⟨rfl, s4, gb2⟩; have TS := two_steps r0.out r1.out r2.out hb gb.out s3.out gb2; have cv2 := (TS.1.cell k).trans (vrow_get I k hk7); have cw2 := (TS.2.1.cell k).trans (wdrow_get k hk7); replace TS := hide TS; replace s4 := hide s4; clear gb2))
          go_wp2
          go_roundw
          case rel =>
            go_light
            obtain ⟨u0, u1, u2, u3, ub⟩ := TS.out
            refine ⟨k + 1, n + wf k, m + wf k, by omega, ?_, ?_, rfl, rfl, by go_num, u0, u1, u2, ?_, ?_, ub⟩
            · rw [HX.out, List.length_append, pad_len, hn.out]
            · rw [HY.out, List.length_append, pad_len, hm.out]
            · rw [HX.out]; exact u3
            · rw [HY.out]; exact s4.out
          case measure => simp [intOf]; omega

        · have t0 : 0 < k := by omega
          have cd := (r3.out.cell n).trans (buf_get _ n hn.out (by omega))
          have fd := r3.out.frozen n
          have hl1 : Hid ((I.dl k ++ [I.sf k]).length = n + 1) := by unfold Hid; rw [List.length_append, hn.out]; rfl
          have HX : Hid (I.dl (k + 1) = (I.dl k ++ [I.sf k]) ++ pad (wf k) (I.vf k)) := by unfold Hid; show (I.dl k ++ I.ds k) ++ _ = _; unfold Inp.ds; rw [if_pos t0]
          have hroom : n + 1 ≤ 32 := by omega
          by_cases hk6 : k = 6
          · have t6 : ((k : Int) == 6) = true := beq_iff_eq.2 (by omega)
            have ce := (r4.out.cell m).trans (buf_get _ m hm.out (by omega))
            have fe := r4.out.frozen m
            have hm1 : Hid ((I.cl k ++ [46]).length = m + 1) := by unfold Hid; rw [List.length_append, hm.out]; rfl
            have HY : Hid (I.cl (k + 1) = (I.cl k ++ [46]) ++ pad (wf k) (I.vf k)) := by unfold Hid; show (I.cl k ++ cs k) ++ _ = _; unfold cs; rw [if_pos hk6]
            have hroom2 : m + 1 ≤ 32 := by omega
            clear hk0 hk6
            have hne34 : w'.heap.size + 3 ≠ w'.heap.size + 4 := by omega
            have X0 := ap_other (n := m) (ap_other (n := n) r0.out (show w'.heap.size ≠ w'.heap.size + 3 by omega) (.int .u8 ((I.sf k).toNat : Int))) (show w'.heap.size ≠ w'.heap.size + 4 by omega) (.int .u8 ((46 : UInt8).toNat : Int))
            have X1 := ap_other (n := m) (ap_other (n := n) r1.out (show w'.heap.size + 1 ≠ w'.heap.size + 3 by omega) (.int .u8 ((I.sf k).toNat : Int))) (show w'.heap.size + 1 ≠ w'.heap.size + 4 by omega) (.int .u8 ((46 : UInt8).toNat : Int))
            have X2 := ap_other (n := m) (ap_other (n := n) r2.out (show w'.heap.size + 2 ≠ w'.heap.size + 3 by omega) (.int .u8 ((I.sf k).toNat : Int))) (show w'.heap.size + 2 ≠ w'.heap.size + 4 by omega) (.int .u8 ((46 : UInt8).toNat : Int))
            have X3 := ap_other (n := m) (ap_same r3.out hn.out (by omega) (I.sf k)) hne34 (.int .u8 ((46 : UInt8).toNat : Int))
            have X4 := ap_same (ap_other (n := n) r4.out hne34.symm (.int .u8 ((I.sf k).toNat : Int))) hm.out (by omega) 46
            have XB := ap_below (ap_below hb (w'.heap.size + 3) n (by omega) (by omega) (.int .u8 ((I.sf k).toNat : Int))) (w'.heap.size + 4) m (by omega) (by have := (ap_other (n := n) r4.out hne34.symm (.int .u8 ((I.sf k).toNat : Int))).lt; omega) (.int .u8 ((46 : UInt8).toNat : Int))
            rw [ap_two _ _ _ _ _ _ _ hsz, show ((46 : UInt8).toNat : Int) = 46 from rfl] at X0 X1 X2 X3 X4 XB
            have cvX := (X0.cell k).trans (vrow_get I k hk7)
            have cwX := (X1.cell k).trans (wdrow_get k hk7)
            replace X0 := hide X0
            replace X1 := hide X1
            replace X2 := hide X2
            replace X3 := hide X3
            replace X4 := hide X4
            replace XB := hide XB
            clear hne34
            generalize I.sf k = c at *
            go_wp2_with fail
            go_region_held3 (fun x => x.cell? ⟨w'.heap.size, k, none⟩ = some (.int .i64 (I.vf k)) ∧ x.cell? ⟨w'.heap.size + 1, k, none⟩ = some (.int .i64 (wf k))) (go_keep) (first | (go_at_call 19; refine (appendPadded_any (I.dl k ++ [c]) (w'.heap.size + 3) (n + 1) (I.vf k) (wf k) hw6 (hl1.out) (by omega) hv ((((wr.setCell ⟨w'.heap.size + 3, n, none⟩ (.int .u8 (c.toNat : Int))).setCell ⟨w'.heap.size + 4, m, none⟩ (.int .u8 46)).alloc (.cells #[.int .u8 (c.toNat : Int)] 5)).alloc (.cells #[.int .u8 46] 5)).drew X3.out.drew).mono ?_; rintro e w1 ⟨rfl, s3, gb⟩; have q0 := X0.out.drew.grown gb (by simp); have q1 := X1.out.drew.grown gb (by simp); have q4 := X4.out.drew.grown gb (by simp); have cv1 := (q0.cell k).trans (vrow_get I k hk7); have cw1 := (q1.cell k).trans (wdrow_get k hk7); clear q0 q1; replace q4 := hide q4; replace s3 := hide s3; replace gb := hide gb))
            go_wp2_with fail
            go_region_held3 (fun x => x.cell? ⟨w'.heap.size, k, none⟩ = some (.int .i64 (I.vf k)) ∧ x.cell? ⟨w'.heap.size + 1, k, none⟩ = some (.int .i64 (wf k))) (go_keep) (first | (go_at_call 19; refine (appendPadded_any (I.cl k ++ [46]) (w'.heap.size + 4) (m + 1) (I.vf k) (wf k) hw6 (hm1.out) (by omega) hv w1.drew q4.out.drew).mono ?_; rintro e w2 ⟨rfl, s4, gb2⟩; have TS := two_steps X0.out X1.out X2.out XB.out gb.out s3.out gb2; have cv2 := (TS.1.cell k).trans (vrow_get I k hk7); have cw2 := (TS.2.1.cell k).trans (wdrow_get k hk7); replace TS := hide TS; replace s4 := hide s4; clear gb2))
            go_wp2
            go_roundw
            case rel =>
              go_light
              obtain ⟨u0, u1, u2, u3, ub⟩ := TS.out
              refine ⟨k + 1, n + 1 + wf k, m + 1 + wf k, by omega, ?_, ?_, rfl, rfl, by go_num, u0, u1, u2, ?_, ?_, ub⟩
              · rw [HX.out, List.length_append, pad_len, hl1.out]
              · rw [HY.out, List.length_append, pad_len, hm1.out]
              · rw [HX.out]; exact u3
              · rw [HY.out]; exact s4.out
            case measure => simp [intOf]; omega

          · have t6 : ((k : Int) == 6) = false := beq_eq_false_iff_ne.2 (by omega)
            have HY : Hid (I.cl (k + 1) = I.cl k ++ pad (wf k) (I.vf k)) := by unfold Hid; show (I.cl k ++ cs k) ++ _ = _; unfold cs; rw [if_neg (by omega), List.append_nil]
            have X0 := hide (ap_other (n := n) r0.out (show w'.heap.size ≠ w'.heap.size + 3 by omega) (.int .u8 ((I.sf k).toNat : Int)))
            have X1 := hide (ap_other (n := n) r1.out (show w'.heap.size + 1 ≠ w'.heap.size + 3 by omega) (.int .u8 ((I.sf k).toNat : Int)))
            have X2 := hide (ap_other (n := n) r2.out (show w'.heap.size + 2 ≠ w'.heap.size + 3 by omega) (.int .u8 ((I.sf k).toNat : Int)))
            have X3 := hide (ap_same r3.out hn.out (by omega) (I.sf k))
            have X4 := hide (ap_other (n := n) r4.out (show w'.heap.size + 4 ≠ w'.heap.size + 3 by omega) (.int .u8 ((I.sf k).toNat : Int)))
            have XB := hide (ap_below hb (w'.heap.size + 3) n (by omega) (by omega) (.int .u8 ((I.sf k).toNat : Int)))
            unfold ap at X0 X1 X2 X3 X4 XB
            clear hk0 hk6
            generalize I.sf k = c at *
            go_wp2_with fail
            go_region_held3 (fun x => x.cell? ⟨w'.heap.size, k, none⟩ = some (.int .i64 (I.vf k)) ∧ x.cell? ⟨w'.heap.size + 1, k, none⟩ = some (.int .i64 (wf k))) (go_keep) (first | (go_at_call 19; refine (appendPadded_any (I.dl k ++ [c]) (w'.heap.size + 3) (n + 1) (I.vf k) (wf k) hw6 (hl1.out) (by omega) hv ((wr.setCell ⟨w'.heap.size + 3, n, none⟩ (.int .u8 (c.toNat : Int))).alloc (.cells #[.int .u8 (c.toNat : Int)] 5)).drew X3.out.drew).mono ?_; rintro e w1 ⟨rfl, s3, gb⟩; have q0 := X0.out.drew.grown gb (by simp); have q1 := X1.out.drew.grown gb (by simp); have q4 := X4.out.drew.grown gb (by simp); have cv1 := (q0.cell k).trans (vrow_get I k hk7); have cw1 := (q1.cell k).trans (wdrow_get k hk7); clear q0 q1; replace q4 := hide q4; replace s3 := hide s3; replace gb := hide gb))
            go_wp2_with fail
            go_region_held3 (fun x => x.cell? ⟨w'.heap.size, k, none⟩ = some (.int .i64 (I.vf k)) ∧ x.cell? ⟨w'.heap.size + 1, k, none⟩ = some (.int .i64 (wf k))) (go_keep) (first | (go_at_call 19; refine (appendPadded_any (I.cl k) (w'.heap.size + 4) (m) (I.vf k) (wf k) hw6 (hm.out) (by omega) hv w1.drew q4.out.drew).mono ?_; rintro e w2 ⟨rfl, s4, gb2⟩; have TS := two_steps X0.out X1.out X2.out XB.out gb.out s3.out gb2; have cv2 := (TS.1.cell k).trans (vrow_get I k hk7); have cw2 := (TS.2.1.cell k).trans (wdrow_get k hk7); replace TS := hide TS; replace s4 := hide s4; clear gb2))
            go_wp2
            go_roundw
            case rel =>
              go_light
              obtain ⟨u0, u1, u2, u3, ub⟩ := TS.out
              refine ⟨k + 1, n + 1 + wf k, m + wf k, by omega, ?_, ?_, rfl, rfl, by go_num, u0, u1, u2, ?_, ?_, ub⟩
              · rw [HX.out, List.length_append, pad_len, hl1.out]
              · rw [HY.out, List.length_append, pad_len, hm.out]
              · rw [HX.out]; exact u3
              · rw [HY.out]; exact s4.out
            case measure => simp [intOf]; omega
      · have hk' : k = 7 := by omega
        subst hk'
        rw [dl7_len] at hn
        rw [cl7_len] at hm
        subst hn
        subst hm
        have hq2 : I.q = 32 ∨ I.q = 84 := by have := HQ.out; first | exact .inl this | exact .inr this
        have HA := hide (fun w => zz_list (I.dl 7) (by rw [dl7_len]; omega) I.flds (dtf_dl7 I HI.out hp hq2) w)
        have HB := hide (fun w => zz_list (I.cl 7) (by rw [cl7_len]; omega) I.flds (dtf_cl7 I HI.out) w)
        have hcv := conv_buf r3 26 (dl7_len I)
        clear hq2
        have hsz := r4.lt
        replace r0 := hide r0
        replace r1 := hide r1
        replace r2 := hide r2
        replace r3 := hide r3
        replace r4 := hide r4
        go_wp2_with fail
        refine (HA.out _).mono ?_; rintro e w1 ⟨rfl, hb1⟩
        have s0 := hide (r0.out.below hb1 (by omega))
        have s1 := hide (r1.out.below hb1 (by omega))
        have s4 := r4.out.below hb1 (by omega)
        have hb2 := hb.trans (hb1.mono (by omega))
        have hsz1 : wr.heap.size ≤ w1.heap.size := hb1.size
        clear hcv HA hb hb1
        have hone := hide (rowOf_one I.flds)
        have hf21 : Hid ((rowOf I.flds).toArray.size = 21) := rfl
        have T0 := nw_old s0.out I.flds
        have T1 := nw_old s1.out I.flds
        have T4 := nw_old s4 I.flds
        have TG := nw_row w1 I.flds
        have TB := nw_below hb2 (by omega) I.flds
        have hcv := conv_buf T4 21 (cl7_len I)
        have TS := nw_size w1 I.flds
        unfold nw at T0 T1 TG TB hcv TS
        rw [zrow] at T0 T1 TG TB hcv TS
        replace T0 := hide T0
        replace T1 := hide T1
        replace TG := hide TG
        replace TB := hide TB
        replace TS := hide TS
        clear T4 s4 hb2
        go_wp2_with (refine wpList_store_row rfl 28 (.tmp 26) _ rfl w1.heap.size (rowOf I.flds).toArray rfl rfl 28 (rowOf zero7).toArray ?_ ?_ ?_ hone.out ?_)
        · exact Row.new w1 (rowOf zero7) 28 _ rfl
        · rw [hf21.out]; kernel_rfl
        · rfl
        refine (HB.out _).mono ?_; rintro e w2 ⟨rfl, hb3⟩
        have hz2 := hb3.size
        rw [TS.out] at hb3 hz2
        have U0 := nw_old (T0.out.below hb3 (by omega)) I.flds
        have U1 := nw_old (T1.out.below hb3 (by omega)) I.flds
        have UG := nw_old (TG.out.below hb3 (by omega)) I.flds
        have UH := nw_row w2 I.flds
        have UB := nw_below (TB.out.trans (hb3.mono (by omega))) (by omega) I.flds
        unfold nw at U0 U1 UG UH UB
        rw [zrow] at U0 U1 UG UH UB
        have hg12 : w1.heap.size < w2.heap.size := by omega
        have hB1 : w'.heap.size + 4 < w1.heap.size := by omega
        clear hcv HB hb3 T0 T1 TG TB TS s0 s1 hz2
        replace U0 := hide U0
        replace U1 := hide U1
        replace UG := hide UG
        replace UH := hide UH
        replace UB := hide UB
        go_wp2_with (refine wpList_store_row rfl 28 (.tmp 28) _ rfl w2.heap.size (rowOf I.flds).toArray rfl rfl 28 (rowOf zero7).toArray ?_ ?_ ?_ hone.out ?_)
        · exact Row.new w2 (rowOf zero7) 28 _ rfl
        · rw [hf21.out]; kernel_rfl
        · rfl
        obtain ⟨wo, rfl⟩ : ∃ wo : World, wo = wr := ⟨_, rfl⟩
        go_loopw [30] (fun v30 wr => ∃ k : Nat, k ≤ 7 ∧ v30 = .int .i64 k ∧ Row wr w'.heap.size I.vrow 37 ∧ Row wr (w'.heap.size + 1) wdrow 37 ∧ Row wr w1.heap.size (rowOf I.flds) 28 ∧ Row wr w2.heap.size (rowOf I.flds) 28 ∧ Below w'.heap.size w' wr) (fun v30 _ => 7 - (intOf v30).toNat)
        case atStart => exact ⟨0, by omega, rfl, U0.out, U1.out, UG.out, UH.out, UB.out⟩
        case round =>
          obtain ⟨k, hk, rfl, r0, r1, rg, rh, hb⟩ := hrel
          clear U0 U1 UG UH UB
          by_cases hk7 : k < 7
          · have cv := (r0.cell k).trans (vrow_get I k hk7)
            have cw := (r1.cell k).trans (wdrow_get k hk7)
            have hgt := rowOf_get I.flds k _ (flds_get I k hk7)
            have g0 := (rg.cell (k * 3)).trans hgt.1
            have g1 := (rg.cell (k * 3 + 1)).trans hgt.2.1
            have g2 := (rg.cell (k * 3 + 2)).trans hgt.2.2
            have h0 := (rh.cell (k * 3)).trans hgt.1
            have h1 := (rh.cell (k * 3 + 1)).trans hgt.2.1
            have h2 := (rh.cell (k * 3 + 2)).trans hgt.2.2
            simp only [Int.natCast_zero] at g0 g1 g2 h0 h1 h2
            have hki : (k : Int) < 7 := by omega
            have hki0 : (0 : Int) ≤ (k : Int) := by omega
            have z0 := r0.lt
            have z1 := r1.lt
            have z2 := rg.lt
            have z3 := rh.lt
            clear hgt
            replace r0 := hide r0
            replace r1 := hide r1
            replace rg := hide rg
            replace rh := hide rh
            go_wp2_with fail
            go_region
            have e0 : (wr.alloc (.cells #[.int .i64 (I.vf k), .int .i64 (wf k), .int .u8 0] 32)).cell? ⟨wr.heap.size, 0, none⟩ = some (.int .i64 (I.vf k)) := by rw [World.cell?_alloc_at _ _ _ _ rfl]; rfl
            have e1 : (wr.alloc (.cells #[.int .i64 (I.vf k), .int .i64 (wf k), .int .u8 0] 32)).cell? ⟨wr.heap.size, 1, none⟩ = some (.int .i64 (wf k)) := by rw [World.cell?_alloc_at _ _ _ _ rfl]; rfl
            have e2 : (wr.alloc (.cells #[.int .i64 (I.vf k), .int .i64 (wf k), .int .u8 0] 32)).cell? ⟨wr.heap.size, 2, none⟩ = some (.int .u8 0) := by rw [World.cell?_alloc_at _ _ _ _ rfl]; rfl
            go_wp2_with fail
            go_region_held3 (fun x => x.cell? ⟨w1.heap.size, k * 3, none⟩ = some (.int .i64 (I.vf k)) ∧ x.cell? ⟨w1.heap.size, k * 3 + 1, none⟩ = some (.int .i64 (wf k)) ∧ x.cell? ⟨w1.heap.size, k * 3 + 2, none⟩ = some (.int .u8 0) ∧ x.cell? ⟨w2.heap.size, k * 3, none⟩ = some (.int .i64 (I.vf k)) ∧ x.cell? ⟨w2.heap.size, k * 3 + 1, none⟩ = some (.int .i64 (wf k)) ∧ x.cell? ⟨w2.heap.size, k * 3 + 2, none⟩ = some (.int .u8 0) ∧ x.cell? ⟨wr.heap.size, 0, none⟩ = some (.int .i64 (I.vf k)) ∧ x.cell? ⟨wr.heap.size, 1, none⟩ = some (.int .i64 (wf k)) ∧ x.cell? ⟨wr.heap.size, 2, none⟩ = some (.int .u8 0)) (simp (disch := ((try simp only [World.size_alloc]); omega)) only [World.cell?_drew, World.cell?_alloc_past, g0, g1, g2, h0, h1, h2, e0, e1, e2, and_self]) (first | (go_at_call 17; refine (zzSame_eq _ _ _ _).mono ?_; rintro e w' ⟨rfl, rfl⟩))
            clear e0 e1 e2
            go_wp2
            go_roundw
            case rel =>
              go_light
              exact ⟨k + 1, by omega, by go_num, row5 r0.out _ _ _ _ _, row5 r1.out _ _ _ _ _, row5 rg.out _ _ _ _ _, row5 rh.out _ _ _ _ _, (below5 hb (by omega) _ _ _ _ _).drew.drew⟩
            case measure => simp [intOf]; omega
          · clear r0 r1 rg rh
            go_wp2
            go_ret
            exact ⟨rfl, hb⟩
end Go.Proofs.Qxb6601586a.Dt
