/-
  WALK: toContent.
-/
import Derived.Test.Qxb6601882aTd
namespace Go.Proofs.Qxb6601882a
open Go.RowKit
set_option linter.unusedVariables false

/-- a line with content, whose blanks end at i -/
def Cont (L : List UInt8) (q i : Nat) : Prop := q ≤ i ∧ (∀ j, q ≤ j → j < i → isBl (at' L j) = true) ∧ isBl (at' L i) = false ∧ i < L.length ∧ at' L i ≠ 35 ∧ isBr (at' L i) = false
/-- toContent does not move from q -/
def Fixed (L : List UInt8) (q : Nat) : Prop := q = L.length ∨ (at' L q ≠ 32 ∧ ∃ i, Cont L q i)
def ToEnd (L : List UInt8) (g c p : Nat) (l s : Int) (w w' : World) : Prop :=
  ∃ (q n : Nat) (l' s' : Int), p ≤ q ∧ q ≤ L.length ∧ Fixed L q ∧ (Fixed L p → q = p ∧ l' = l ∧ s' = s) ∧ w' = (w.alloc (PB (.slice (some ⟨g, 0, none⟩) L.length c) q l' s')).drewN n
/-- two ends of one run of blanks are one -/
theorem run_eq (L : List UInt8) (p i k : Nat) (h1 : p ≤ i) (h2 : p ≤ k) (hi : ∀ j, p ≤ j → j < i → isBl (at' L j) = true) (hk : ∀ j, p ≤ j → j < k → isBl (at' L j) = true)
    (ei : isBl (at' L i) = false) (ek : isBl (at' L k) = false) : i = k := by
  by_cases h : i < k
  · have := hk i h1 h; rw [ei] at this; cases this
  · by_cases h' : k < i
    · have := hi k h2 h'; rw [ek] at this; cases this
    · omega
theorem bl_end (L : List UInt8) : isBl (at' L L.length) = false := by rw [at_ge L _ (Nat.le_refl _)]; rfl
/-- the first byte that is no space, with what stands behind it -/
theorem sp_first (L : List UInt8) (p p1 : Nat) (hs : ∀ j, p ≤ j → j < p1 → at' L j = 32) (h : p ≤ p1) (hf : at' L p ≠ 32) : p1 = p := by
  by_cases e : p < p1
  · exact absurd (hs p (Nat.le_refl _) e) hf
  · omega

theorem nofix (L : List UInt8) (p p1 i : Nat) (hp : p ≤ p1) (hs : ∀ j, p ≤ j → j < p1 → at' L j = 32) (hi : p1 ≤ i) (hb : ∀ j, p1 ≤ j → j < i → isBl (at' L j) = true)
    (ei : isBl (at' L i) = false) (hn : i = L.length ∨ at' L i = 35 ∨ isBr (at' L i) = true) (hf : Fixed L p) : p = L.length := by
  rcases hf with h | ⟨h, k, c1, c2, c3, c4, c5, c6⟩
  · exact h
  · have e := sp_first L p p1 hs hp h
    subst e
    have e2 := run_eq L p1 i k hi c1 hb c2 ei c3
    subst e2
    rcases hn with h | h | h
    · omega
    · exact absurd h c5
    · rw [c6] at h; cases h
theorem okfix (L : List UInt8) (p p1 i : Nat) (hp : p ≤ p1) (hs : ∀ j, p ≤ j → j < p1 → at' L j = 32) (hc : Cont L p1 i) (hf : Fixed L p) : p1 = p := by
  rcases hf with h | ⟨h, k, _⟩
  · have := hc.1; have := hc.2.2.2.1; omega
  · exact sp_first L p p1 hs hp h

set_option maxRecDepth 100000 in
set_option maxHeartbeats 4000000 in
theorem toContent_any (L : List UInt8) (g c pos m : Nat) (l0 s0 : Int) (hl : L.length ≤ 1048576) (hp : pos ≤ L.length) (hz : ∀ j, j < L.length → at' L j ≠ 0) (w : World) (hT : Txt w g L) :
    Calls Try.prog 23 #[.pointer (some ⟨w.heap.size, 0, none⟩)] ((w.alloc (PB (.slice (some ⟨g, 0, none⟩) L.length c) pos l0 s0)).drewN m) fun e w' => e = .returned (.tuple #[]) ∧ ToEnd L g c pos l0 s0 w w' := by
  have HP := hide (fun q m l s hq => peek_any L g c q m l s hl hq w hT)
  have HK := hide (fun q m l s hq => skip_any L g c q m l s hl hq w hT)
  have HB := hide (fun q m l s hq => break_any L g c q m l s hl hq w hT)
  obtain ⟨hgw, hct⟩ := hT
  replace hct := hide hct
  replace hz := hide hz
  have S1 := set1 w (.slice (some ⟨g, 0, none⟩) L.length c)
  unfold PB at S1
  go_enter Try.func23, Try.ntmps23
  go_wp2_with fail
  go_loopw [2] (fun v2 wr => ∃ (p n : Nat) (l s : Int), pos ≤ p ∧ p ≤ L.length ∧ (Fixed L pos → p = pos ∧ l = l0 ∧ s = s0) ∧ wr = (w.alloc (PB (.slice (some ⟨g, 0, none⟩) L.length c) p l s)).drewN n) (fun _ wr => L.length - (intOf ((wr.cell? ⟨w.heap.size, 1, none⟩).getD undef)).toNat)
  case atStart => exact ⟨pos, m, l0, s0, Nat.le_refl _, hp, fun _ => ⟨rfl, rfl, rfl⟩, rfl⟩
  case round =>
    obtain ⟨p, n, l, s, h1, h2, HF, rfl⟩ := hrel
    replace HF := hide HF
    go_wp2_with fail
    have hby := at_byte L
    replace hby := hide hby
    go_loopw [3] (fun v3 wr => ∃ p1 n1 : Nat, p ≤ p1 ∧ p1 ≤ L.length ∧ (∀ j, p ≤ j → j < p1 → at' L j = 32) ∧ wr = (w.alloc (PB (.slice (some ⟨g, 0, none⟩) L.length c) p1 l s)).drewN n1) (fun _ wr => L.length - (intOf ((wr.cell? ⟨w.heap.size, 1, none⟩).getD undef)).toNat)
    case atStart => exact ⟨p, n, Nat.le_refl _, h2, fun j a b => by omega, rfl⟩
    case round =>
      obtain ⟨p1, n1, h3, h4, hsp, rfl⟩ := hrel
      by_cases hb : at' L p1 = 32
      · have tb : ((at' L p1 : Int) == 32) = true := beq_iff_eq.2 (by omega)
        have hlt : p1 < L.length := by
          by_cases h : p1 < L.length
          · exact h
          · rw [at_ge L _ (by omega)] at hb; omega
        replace hb := hide hb
        replace hsp := hide hsp
        go_wp2_with fail
        refine (HP.out p1 n1 l s h4).mono ?_
        rintro e w' ⟨rfl, n2, rfl⟩
        unfold PB
        go_wp2
        go_roundw
        case rel =>
          go_light
          refine ⟨p1 + 1, n2, by omega, by omega, fun j a b => ?_, rfl⟩
          by_cases e : j = p1
          · rw [e]; exact hb.out
          · exact hsp.out j a (by omega)
        case measure =>
          have e1 := mcell w (.slice (some ⟨g, 0, none⟩) L.length c) ((p1 : Int) + 1) l s n2
          have e2 := mcell w (.slice (some ⟨g, 0, none⟩) L.length c) p1 l s n1
          unfold PB at e1
          rw [e1, e2]
          simp [intOf]
          omega
      · have tb : ((at' L p1 : Int) == 32) = false := beq_eq_false_iff_ne.2 (by omega)
        replace hb := hide hb
        replace hsp := hide hsp
        go_wp2_with fail
        refine (HP.out p1 n1 l s h4).mono ?_
        rintro e w' ⟨rfl, n2, rfl⟩
        unfold PB
        go_wp2_with fail
        go_loop [2] (fun v2 => ∃ i : Nat, p1 ≤ i ∧ i ≤ L.length ∧ (∀ j, p1 ≤ j → j < i → isBl (at' L j) = true) ∧ v2 = .int .i64 i) (fun v2 => L.length - (intOf v2).toNat)
        case atStart => exact ⟨p1, Nat.le_refl _, h4, fun j a b => by omega, rfl⟩
        case round =>
          obtain ⟨i, h5, h6, hbl, rfl⟩ := hrel
          by_cases hil : i < L.length
          · have hc := hct.out i hil
            have hil' : (i : Int) < (L.length : Int) := by omega
            cases hib : isBl (at' L i)
            · by_cases h35 : at' L i = 35
              · have NC : Hid (Fixed L p → p = L.length) := nofix L p p1 i h3 hsp.out h5 hbl hib (.inr (.inl h35))
                have t35 : ((at' L i : Int) != 35) = false := by rw [bne_eq_false_iff_eq]; omega
                clear h35
                go_wp2_with fail
                refine (isBlank_any _ (hby.out i) _).mono ?_
                rintro e w' ⟨rfl, rfl⟩
                replace hbl := hide hbl
                go_wp2_with fail
                refine (HK.out i n2 l s (by omega)).mono ?_
                rintro e w' ⟨rfl, q, n3, k1, k2, k3, rfl⟩
                replace k3 := hide k3
                by_cases hqe : q = L.length
                · have tq : ((q : Int) == (L.length : Int)) = true := beq_iff_eq.2 (by omega)
                  have HG : Hid (Fixed L pos → q = pos ∧ l = l0 ∧ s = s0) := by
                    intro hf
                    obtain ⟨e1, e2, e3⟩ := HF.out hf
                    have := NC.out (by rw [e1]; exact hf)
                    exact ⟨by omega, e2, e3⟩
                  have HQ := hide hqe
                  clear hqe
                  unfold PB
                  go_wp2
                  go_quiet (fail)
                  go_wp2
                  refine bodyPost_ret (results_none rfl _ _ _) rfl ?_
                  exact ⟨rfl, ⟨q, _, l, s, by omega, k2, .inl HQ.out, HG.out, by first | rfl | (rw [World.drewN_drewN]; rfl)⟩⟩
                · have tq : ((q : Int) == (L.length : Int)) = false := beq_eq_false_iff_ne.2 (by omega)
                  have hqlt : q < L.length := by omega
                  have HG : Hid (¬ Fixed L pos) := by
                    intro hf
                    obtain ⟨e1, e2, e3⟩ := HF.out hf
                    have := NC.out (by rw [e1]; exact hf)
                    omega
                  clear hqe
                  unfold PB
                  go_wp2
                  go_quiet (fail)
                  go_wp2_with fail
                  try rw [World.drewN_drewN]
                  refine (HB.out q _ l s hqlt).mono ?_
                  rintro e w' ⟨rfl, q', n4, k4, k5, rfl⟩
                  go_wp2
                  go_roundw
                  case rel =>
                    go_light
                    exact ⟨q', n4, wrap64 (l + 1), q', by omega, k5, fun hf => absurd hf HG.out, rfl⟩
                  case measure =>
                    rw [mcell, mcell]
                    simp [intOf]
                    omega

              · have t35 : ((at' L i : Int) != 35) = true := by rw [bne_iff_ne]; omega
                cases hbr : isBr (at' L i)
                · have HC : Hid (Cont L p1 i) := ⟨h5, hbl, hib, hil, h35, hbr⟩
                  have HO : Hid (Fixed L p → p1 = p) := okfix L p p1 i h3 hsp.out HC.out
                  clear h35
                  replace hbl := hide hbl
                  go_wp2_with (first | (go_at_call 30; refine (isBlank_any _ (hby.out i) _).mono ?_; rintro e w' ⟨rfl, rfl⟩) | (go_at_call 31; refine (isBreak_any _ (hby.out i) _).mono ?_; rintro e w' ⟨rfl, rfl⟩))
                  refine bodyPost_ret (results_none rfl _ _ _) rfl ?_
                  refine ⟨rfl, ⟨p1, n2, l, s, by omega, h4, .inr ⟨hb.out, i, HC.out⟩, ?_, rfl⟩⟩
                  intro hf
                  obtain ⟨e1, e2, e3⟩ := HF.out hf
                  have := HO.out (by rw [e1]; exact hf)
                  exact ⟨by omega, e2, e3⟩
                · have NC : Hid (Fixed L p → p = L.length) := nofix L p p1 i h3 hsp.out h5 hbl hib (.inr (.inr hbr))
                  clear h35
                  go_wp2_with fail
                  refine (isBlank_any _ (hby.out i) _).mono ?_
                  rintro e w' ⟨rfl, rfl⟩
                  go_wp2_with fail
                  refine (isBreak_any _ (hby.out i) _).mono ?_
                  rintro e w' ⟨rfl, rfl⟩
                  replace hbl := hide hbl
                  go_wp2_with fail
                  refine (HK.out i n2 l s (by omega)).mono ?_
                  rintro e w' ⟨rfl, q, n3, k1, k2, k3, rfl⟩
                  replace k3 := hide k3
                  by_cases hqe : q = L.length
                  · have tq : ((q : Int) == (L.length : Int)) = true := beq_iff_eq.2 (by omega)
                    have HG : Hid (Fixed L pos → q = pos ∧ l = l0 ∧ s = s0) := by
                      intro hf
                      obtain ⟨e1, e2, e3⟩ := HF.out hf
                      have := NC.out (by rw [e1]; exact hf)
                      exact ⟨by omega, e2, e3⟩
                    have HQ := hide hqe
                    clear hqe
                    unfold PB
                    go_wp2
                    go_quiet (fail)
                    go_wp2
                    refine bodyPost_ret (results_none rfl _ _ _) rfl ?_
                    exact ⟨rfl, ⟨q, _, l, s, by omega, k2, .inl HQ.out, HG.out, by first | rfl | (rw [World.drewN_drewN]; rfl)⟩⟩
                  · have tq : ((q : Int) == (L.length : Int)) = false := beq_eq_false_iff_ne.2 (by omega)
                    have hqlt : q < L.length := by omega
                    have HG : Hid (¬ Fixed L pos) := by
                      intro hf
                      obtain ⟨e1, e2, e3⟩ := HF.out hf
                      have := NC.out (by rw [e1]; exact hf)
                      omega
                    clear hqe
                    unfold PB
                    go_wp2
                    go_quiet (fail)
                    go_wp2_with fail
                    try rw [World.drewN_drewN]
                    refine (HB.out q _ l s hqlt).mono ?_
                    rintro e w' ⟨rfl, q', n4, k4, k5, rfl⟩
                    go_wp2
                    go_roundw
                    case rel =>
                      go_light
                      exact ⟨q', n4, wrap64 (l + 1), q', by omega, k5, fun hf => absurd hf HG.out, rfl⟩
                    case measure =>
                      rw [mcell, mcell]
                      simp [intOf]
                      omega

            · replace hbl := hide hbl
              have HI := hide hib
              go_wp2_with fail
              refine (isBlank_any _ (hby.out i) _).mono ?_
              rintro e w' ⟨rfl, rfl⟩
              go_wp2
              go_round
              case rel =>
                go_light
                refine ⟨i + 1, by omega, by omega, fun j a b => ?_, by go_num⟩
                by_cases e : j = i
                · rw [e]; exact HI.out
                · exact hbl.out j a (by omega)
              case measure => simp [intOf]; omega
          · have hie : i = L.length := by omega
            have NC : Hid (Fixed L p → p = L.length) := nofix L p p1 i h3 hsp.out h5 hbl (by rw [hie]; exact bl_end L) (.inl hie)
            have hil' : ¬ (i : Int) < (L.length : Int) := by omega
            clear hie
            replace hbl := hide hbl
            go_wp2_with fail
            refine (HK.out i n2 l s (by omega)).mono ?_
            rintro e w' ⟨rfl, q, n3, k1, k2, k3, rfl⟩
            replace k3 := hide k3
            by_cases hqe : q = L.length
            · have tq : ((q : Int) == (L.length : Int)) = true := beq_iff_eq.2 (by omega)
              have HG : Hid (Fixed L pos → q = pos ∧ l = l0 ∧ s = s0) := by
                intro hf
                obtain ⟨e1, e2, e3⟩ := HF.out hf
                have := NC.out (by rw [e1]; exact hf)
                exact ⟨by omega, e2, e3⟩
              have HQ := hide hqe
              clear hqe
              unfold PB
              go_wp2
              go_quiet (fail)
              go_wp2
              refine bodyPost_ret (results_none rfl _ _ _) rfl ?_
              exact ⟨rfl, ⟨q, _, l, s, by omega, k2, .inl HQ.out, HG.out, by first | rfl | (rw [World.drewN_drewN]; rfl)⟩⟩
            · have tq : ((q : Int) == (L.length : Int)) = false := beq_eq_false_iff_ne.2 (by omega)
              have hqlt : q < L.length := by omega
              have HG : Hid (¬ Fixed L pos) := by
                intro hf
                obtain ⟨e1, e2, e3⟩ := HF.out hf
                have := NC.out (by rw [e1]; exact hf)
                omega
              clear hqe
              unfold PB
              go_wp2
              go_quiet (fail)
              go_wp2_with fail
              try rw [World.drewN_drewN]
              refine (HB.out q _ l s hqlt).mono ?_
              rintro e w' ⟨rfl, q', n4, k4, k5, rfl⟩
              go_wp2
              go_roundw
              case rel =>
                go_light
                exact ⟨q', n4, wrap64 (l + 1), q', by omega, k5, fun hf => absurd hf HG.out, rfl⟩
              case measure =>
                rw [mcell, mcell]
                simp [intOf]
                omega
end Go.Proofs.Qxb6601882a
