/- zzwlShapeOK. -/
import Derived.Test.Qxb6614184aModsW10
namespace Go.Proofs.Qxb6614184aMods.L
open Go.RowKit

/-- The first k dense places are as they should be. -/
structure DOK (k : Nat) (DP KN LN : Nat → Nat) (KX LL : Nat → Nat → Nat) (YY : Nat → Nat → Nat → Nat) : Prop where
  inc : ∀ i, i + 1 < k → DP i < DP (i + 1)
  len : ∀ i, i < k → KN i = LN i
  ok : ∀ i, i < k → COK (KN i) (KX i) (LL i) (YY i)

theorem DOK.zero (DP KN LN : Nat → Nat) (KX LL : Nat → Nat → Nat) (YY : Nat → Nat → Nat → Nat) : DOK 0 DP KN LN KX LL YY :=
  ⟨fun i hi => absurd hi (by omega), fun i hi => absurd hi (by omega), fun i hi => absurd hi (by omega)⟩

theorem DOK.step {k : Nat} {DP KN LN : Nat → Nat} {KX LL : Nat → Nat → Nat} {YY : Nat → Nat → Nat → Nat} (h : DOK k DP KN LN KX LL YY) (h1 : 0 < k → DP (k - 1) < DP k) (h2 : KN k = LN k ∧ COK (KN k) (KX k) (LL k) (YY k)) : DOK (k + 1) DP KN LN KX LL YY where
  inc := fun i hi => by
    by_cases e : i + 1 = k
    · subst e; exact h1 (by omega)
    · exact h.inc i (by omega)
  len := fun i hi => by
    by_cases e : i = k
    · subst e; exact h2.1
    · exact h.len i (by omega)
  ok := fun i hi => by
    by_cases e : i = k
    · subst e; exact h2.2
    · exact h.ok i (by omega)

/-- The first k pieces are as they should be. -/
structure POK (k : Nat) (PN : Nat → Nat) (PX : Nat → Nat → Nat) : Prop where
  ne : ∀ i, i < k → 0 < PN i
  inc : ∀ i, i < k → ∀ j, j + 1 < PN i → PX i j < PX i (j + 1)

theorem POK.zero (PN : Nat → Nat) (PX : Nat → Nat → Nat) : POK 0 PN PX :=
  ⟨fun i hi => absurd hi (by omega), fun i hi => absurd hi (by omega)⟩

theorem POK.step {k : Nat} {PN : Nat → Nat} {PX : Nat → Nat → Nat} (h : POK k PN PX) (h1 : 0 < PN k) (h2 : ∀ j, j + 1 < PN k → PX k j < PX k (j + 1)) : POK (k + 1) PN PX where
  ne := fun i hi => by
    by_cases e : i = k
    · subst e; exact h1
    · exact h.ne i (by omega)
  inc := fun i hi => by
    by_cases e : i = k
    · subst e; exact h2
    · exact h.inc i (by omega)

/-- Block g holds 65536 bools that may be written. -/
def Bools (w : World) (g : Nat) : Prop := g < w.heap.size ∧ ∀ j, j < 65536 → w.frozen? ⟨g, j, none⟩ = false ∧ ∃ o, w.cell? ⟨g, j, none⟩ = some (.bool o)

theorem Bools.kept {w w1 : World} {g : Nat} {r : Option Nat} (h : Bools w g) (hg : w.grownBy w1 r) (hr : r ≠ some g) : Bools w1 g :=
  ⟨Nat.lt_of_lt_of_le h.1 hg.size, fun j hj => by
    obtain ⟨hf, v, hc⟩ := h.2 j hj
    exact ⟨by rw [grown_frozen hg (a := ⟨g, j, none⟩) h.1 hr]; exact hf, v, by rw [grown_cell hg (a := ⟨g, j, none⟩) h.1 hr]; exact hc⟩⟩

theorem Bools.set {w : World} {g : Nat} (h : Bools w g) (i : Nat) (hi : i < 65536) (u : Bool) : Bools (w.setCell ⟨g, i, none⟩ (.bool u)) g :=
  ⟨by simpa using h.1, fun j hj => by
    obtain ⟨hf, v, hc⟩ := h.2 j hj
    obtain ⟨_, v', hc'⟩ := h.2 i hi
    refine ⟨by simpa using hf, ?_⟩
    rw [cell_set w g i (.bool u) (.bool v') hc' j]
    by_cases e : j = i
    · rw [if_pos e]; exact ⟨u, rfl⟩
    · rw [if_neg e]; exact ⟨v, hc⟩⟩

theorem make_bools (w : World) : ∃ w', (Instr.makeSlice 53 (.int .i64 65536) (.int .i64 65536)).run Trym.prog w = .ok (.slice (some ⟨w.heap.size, 0, none⟩) 65536 65536) w' ∧ Bools w' w.heap.size ∧ w.grownBy w' none :=
  ⟨_, run_make_row' (P := Trym.prog) 53 4 (.bool false) 1 Trym.underlying53 info4 rfl .i64 .i64 65536 (by omega) (by omega) w, ⟨by simp, fun j hj => ⟨new_frozen w _ j 4, false, new_cell w _ 65536 j 4 hj⟩⟩, World.grownBy_alloc _ _ _⟩

set_option maxRecDepth 100000 in
set_option maxHeartbeats 8000000 in
theorem shapeOK_calls (dpv dkv dlv pv : Value) (nd nk nl np : Nat) (DP KN LN PN : Nat → Nat) (KX LL PX : Nat → Nat → Nat) (YY : Nat → Nat → Nat → Nat) (w : World)
    (hd : Row w none dpv nd (U .u16 DP)) (hk : Rows2 w none .u32 dkv nk KN KX) (hl : Rows3 w none .u16 dlv nl LN LL YY) (hp : Rows2 w none .u32 pv np PN PX)
    (hDP : ∀ i, DP i < 65536) (hPX : ∀ i j, PX i j < 4294967296) :
    Calls Trym.prog 8 #[dpv, dkv, dlv, pv] w fun e w' => ∃ o : Bool, e = .returned (.bool o) ∧ (o = true → nk = nd ∧ nl = nd ∧ DOK nd DP KN LN KX LL YY ∧ POK np PN PX) ∧ w.grownBy w' none := by
  obtain ⟨a0, c0, rfl, hc0, hm0, hr0⟩ := hd
  obtain ⟨V1, ⟨a1, c1, rfl, hc1, hm1, hr1⟩, hV1⟩ := hk
  obtain ⟨V2, ⟨a2, c2, rfl, hc2, hm2, hr2⟩, hV2⟩ := hl
  obtain ⟨V3, ⟨a3, c3, rfl, hc3, hm3, hr3⟩, hV3⟩ := hp
  unfold maxLen at hm0 hm1 hm2 hm3
  have HR0 := hid hr0
  have HR1 := hid hr1
  have HR2 := hid hr2
  have HR3 := hid hr3
  have HV1 := hid hV1
  have HV2 := hid hV2
  have HV3 := hid hV3
  have HDP := hid hDP
  have HPX := hid hPX
  clear hr0 hr1 hr2 hr3 hV1 hV2 hV3 hDP hPX
  by_cases hnk : nk = nd
  case neg =>
    have b1 : ((nk : Int) != (nd : Int)) = true := by rw [bne_iff_ne]; omega
    clear hnk
    go_enter Trym.func8, Trym.ntmps8
    go_wp2
    go_ret
    exact ⟨false, rfl, fun h => by simp at h, grown_refl _ _⟩
  by_cases hnl : nl = nd
  case neg =>
    have b1 : ((nk : Int) != (nd : Int)) = false := by rw [bne_eq_false_iff_eq]; omega
    have b2 : ((nl : Int) != (nd : Int)) = true := by rw [bne_iff_ne]; omega
    clear hnl hnk
    go_enter Trym.func8, Trym.ntmps8
    go_wp2
    go_ret
    exact ⟨false, rfl, fun h => by simp at h, grown_refl _ _⟩
  subst hnk
  subst hnl
  have b1 : ((nl : Int) != (nl : Int)) = false := by simp
  obtain ⟨w1, hmk, hB1, hg1⟩ := make_bools w
  have HB1 := hid hB1
  have HG1 := hid hg1
  clear hB1 hg1
  go_enter Trym.func8, Trym.ntmps8
  go_wp2
  go_loopw [10] (fun i wr => ∃ k : Nat, k ≤ nl ∧ i = .int .i64 k ∧ w.grownBy wr none ∧ Bools wr w.heap.size ∧ DOK k DP KN LN KX LL YY) (fun i _ => nl - (intOf i).toNat)
  case atStart => exact ⟨0, by omega, rfl, HG1.out, HB1.out, DOK.zero _ _ _ _ _ _⟩
  case round =>
    obtain ⟨k, hk, rfl, hg0, hB0, hD0⟩ := hrel
    clear HG1 HB1 hmk
    have HG := hid hg0
    have HB := hid hB0
    have HD := hid hD0
    clear hg0 hB0 hD0
    by_cases hlt : k < nl
    · obtain ⟨b0, o0, rfl, hb0, _, hcell0⟩ := HR0.out (by omega)
      obtain ⟨b1', o1, rfl, hb1, _, hcell1⟩ := HR1.out (by omega)
      obtain ⟨b2, o2, rfl, hb2, _, hcell2⟩ := HR2.out (by omega)
      have g0 : wr.cell? ⟨b0, o0 + k, none⟩ = some (.int .u16 (DP k : Int)) := by rw [grown_cell HG.out (a := ⟨b0, o0 + k, none⟩) hb0 (by simp)]; exact hcell0 k hlt
      have g1 : wr.cell? ⟨b1', o1 + k, none⟩ = some (V1 k) := by rw [grown_cell HG.out (a := ⟨b1', o1 + k, none⟩) hb1 (by simp)]; exact hcell1 k hlt
      have g2 : wr.cell? ⟨b2, o2 + k, none⟩ = some (V2 k) := by rw [grown_cell HG.out (a := ⟨b2, o2 + k, none⟩) hb2 (by simp)]; exact hcell2 k hlt
      have HC0 := hid hcell0
      clear hcell0 hcell1 hcell2
      have hdp := HDP.out k
      obtain ⟨fz, ob, hob⟩ := HB.out.2 (DP k) hdp
      have hz : w.heap.size < wr.heap.size := HB.out.1
      obtain ⟨oc, hoc⟩ : ∃ o : Bool, o = true ↔ (KN k = LN k ∧ COK (KN k) (KX k) (LL k) (YY k)) := by
        by_cases h : KN k = LN k ∧ COK (KN k) (KX k) (LL k) (YY k)
        · exact ⟨true, fun _ => h, fun _ => rfl⟩
        · exact ⟨false, fun e => by simp at e, fun e => absurd e h⟩
      have HOC := hid hoc
      clear hoc
      have HQ : Hid (∀ (w0 : World) (nq : Nat), w.grownBy w0 none → Calls Trym.prog 10 #[V1 k, V2 k] (w0.drewN nq) fun e w'' => e = .returned (.bool oc) ∧ ∃ m, w'' = w0.drewN m) := fun w0 nq hg =>
        Calls.quiet_of (chunksOK_calls (V1 k) (V2 k) (KN k) (LN k) (KX k) (LL k) (YY k) _ ((HV1.out k hlt).kept0 (grown_drewN hg nq)) ((HV2.out k hlt).kept0 (grown_drewN hg nq)) oc HOC.out)
      by_cases hk0 : 0 < k
      case' pos =>
        have g3 : wr.cell? ⟨b0, o0 + (k - 1), none⟩ = some (.int .u16 (DP (k - 1) : Int)) := by rw [grown_cell HG.out (a := ⟨b0, o0 + (k - 1), none⟩) hb0 (by simp)]; exact HC0.out (k - 1) (by omega)
        by_cases hge : DP (k - 1) < DP k
        case neg =>
          go_wp2
          go_quiet (fail)
          go_wp2
          go_ret
          exact ⟨false, rfl, fun h => by simp at h, grown_drewN HG.out _⟩
        go_wp2
        go_quiet (fail)
        go_wp2
        have hp : Hid (0 < k → DP (k - 1) < DP k) := fun _ => hge
        clear hge g3
      case' neg =>
        have hd : decide ((0 : Int) < (k : Int)) = false := decide_eq_false (by omega)
        go_wp2
        go_quiet (fail)
        go_wp2
        have hp : Hid (0 < k → DP (k - 1) < DP k) := fun h => absurd h hk0
        clear hd
      all_goals
        have HG2 := hid (grown_drewN HG.out nq)
        have HB2 := hid (HB.out.kept (grown_drewN (grown_refl wr none) nq) (by simp))
        have y0 : (wr.drewN nq).cell? ⟨b0, o0 + k, none⟩ = some (.int .u16 (DP k : Int)) := g0
        have y1 : (wr.drewN nq).cell? ⟨b1', o1 + k, none⟩ = some (V1 k) := g1
        have y2 : (wr.drewN nq).cell? ⟨b2, o2 + k, none⟩ = some (V2 k) := g2
        have y3 : (wr.drewN nq).frozen? ⟨w.heap.size, DP k, none⟩ = false := fz
        have y4 : (wr.drewN nq).cell? ⟨w.heap.size, DP k, none⟩ = some (.bool ob) := hob
        have hz2 : w.heap.size < (wr.drewN nq).heap.size := hz
        clear g0 g1 g2 fz hob hz HG HB
        generalize wr.drewN nq = w0 at *
        cases oc
        case false =>
          go_quiet ((go_at_call 10; exact HQ.out _ _ HG2.out))
          go_wp2
          go_ret
          exact ⟨false, rfl, fun h => by simp at h, grown_drewN HG2.out _⟩
        go_quiet ((go_at_call 10; exact HQ.out _ _ HG2.out))
        go_wp2
        go_roundw
        case rel => exact ⟨k + 1, by omega, by go_num, grown_set (grown_drewN HG2.out nq) _ _ (Or.inr (Nat.le_refl _)), (HB2.out.kept (grown_drewN (grown_refl w0 none) nq) (by simp)).set (DP k) hdp true, HD.out.step hp.out (HOC.out.1 rfl)⟩
        case measure => simp [intOf]; omega
    · have e0 : k = nl := by omega
      have HD1 : Hid (DOK nl DP KN LN KX LL YY) := by rw [← e0]; exact HD.out
      clear e0 HD
      go_wp2
      go_loopw [11, 12, 13] (fun i _ _ wr => ∃ k : Nat, k ≤ np ∧ i = .int .i64 k ∧ w.grownBy wr none ∧ Bools wr w.heap.size ∧ POK k PN PX) (fun i _ _ _ => np - (intOf i).toNat)
      case atStart => exact ⟨0, by omega, rfl, HG.out, HB.out, POK.zero _ _⟩
      case round =>
        clear HG HB
        obtain ⟨k, hk, rfl, hg0, hB0, hP0⟩ := hrel
        have HG := hid hg0
        have HB := hid hB0
        have HP := hid hP0
        clear hg0 hB0 hP0
        by_cases hlt : k < np
        · obtain ⟨b3, o3, rfl, hb3, _, hcell3⟩ := HR3.out (by omega)
          obtain ⟨a4, c4, e4, hc4, hm4, hr4⟩ := HV3.out k hlt
          have g3 : wr.cell? ⟨b3, o3 + k, none⟩ = some (.slice a4 (PN k) c4) := by rw [grown_cell HG.out (a := ⟨b3, o3 + k, none⟩) hb3 (by simp), hcell3 k hlt, e4]
          have HC3 := hid hcell3
          unfold maxLen at hm4
          clear hcell3 e4
          by_cases hpn : 0 < PN k
          case neg =>
            have bp : ((PN k : Int) == 0) = true := beq_iff_eq.2 (by omega)
            go_wp2
            go_ret
            exact ⟨false, rfl, fun h => by simp at h, HG.out⟩
          have bp : ((PN k : Int) == 0) = false := beq_eq_false_iff_ne.2 (by omega)
          obtain ⟨b4, o4, rfl, hb4, _, hcell4⟩ := hr4 hpn
          have HC4 := hid hcell4
          clear hcell4 hr4
          by_cases hk0 : 0 < k
          case' pos =>
            obtain ⟨a5, c5, e5, hc5, hm5, hr5⟩ := HV3.out (k - 1) (by omega)
            have hpn5 := HP.out.ne (k - 1) (by omega)
            obtain ⟨b5, o5, rfl, hb5, _, hcell5⟩ := hr5 hpn5
            have g5 : wr.cell? ⟨b3, o3 + (k - 1), none⟩ = some (.slice (some ⟨b5, o5, none⟩) (PN (k - 1)) c5) := by rw [grown_cell HG.out (a := ⟨b3, o3 + (k - 1), none⟩) hb3 (by simp), HC3.out (k - 1) (by omega), e5]
            have g6 : wr.cell? ⟨b5, o5 + (PN (k - 1) - 1), none⟩ = some (.int .u32 (PX (k - 1) (PN (k - 1) - 1) : Int)) := by rw [grown_cell HG.out (a := ⟨b5, _, none⟩) hb5 (by simp)]; exact hcell5 _ (by omega)
            have g7 : wr.cell? ⟨b4, o4, none⟩ = some (.int .u32 (PX k 0 : Int)) := by rw [grown_cell HG.out (a := ⟨b4, _, none⟩) hb4 (by simp)]; exact HC4.out 0 hpn
            unfold maxLen at hm5
            have hw5 : IntKind.i64.wrap ((PN (k - 1) : Int) - 1) = ((PN (k - 1) - 1 : Nat) : Int) := by rw [wrap_i64 _ (by omega) (by omega)]; omega
            have i5 : ((PN (k - 1) - 1 : Nat) : Int) < (PN (k - 1) : Int) := by omega
            have i4 : (0 : Int) < (PN k : Int) := by omega
            clear hcell5 e5 hr5
            by_cases hpl : PX (k - 1) (PN (k - 1) - 1) / 2097152 < PX k 0 / 2097152
            case neg =>
              go_wp2
              go_quiet (fail)
              go_wp2
              go_ret
              exact ⟨false, rfl, fun h => by simp at h, grown_drewN HG.out _⟩
            go_wp2
            go_quiet (fail)
            go_wp2
            have HG2 := hid (grown_drewN HG.out nq)
            have HB2 := hid (HB.out.kept (grown_drewN (grown_refl wr none) nq) (by simp))
            clear g5 g6 g7 hpl
          case' neg =>
            have hd : decide ((0 : Int) < (k : Int)) = false := decide_eq_false (by omega)
            go_wp2
            have HG2 := hid HG.out
            have HB2 := hid HB.out
            clear hd
          all_goals
            go_loopw [14] (fun i wr => ∃ j : Nat, j ≤ PN k ∧ i = .int .i64 j ∧ w.grownBy wr none ∧ Bools wr w.heap.size ∧ ∀ t, t + 1 < j → PX k t < PX k (t + 1)) (fun i _ => PN k - (intOf i).toNat)
            case atStart => exact ⟨0, by omega, rfl, HG2.out, HB2.out, fun t ht => absurd ht (by omega)⟩
            case round =>
              clear HG2 HB2 HG HB g3
              obtain ⟨j, hj, rfl, hg0, hB0, hI0⟩ := hrel
              have HG := hid hg0
              have HB := hid hB0
              have HI := hid hI0
              clear hg0 hB0 hI0
              by_cases hjl : j < PN k
              · have g8 : wr.cell? ⟨b4, o4 + j, none⟩ = some (.int .u32 (PX k j : Int)) := by rw [grown_cell HG.out (a := ⟨b4, _, none⟩) hb4 (by simp)]; exact HC4.out j hjl
                have hpx := HPX.out k j
                obtain ⟨fz, ob, hob⟩ := HB.out.2 (PX k j / 2097152) (by omega)
                by_cases hj0 : 0 < j
                case' pos =>
                  have g9 : wr.cell? ⟨b4, o4 + (j - 1), none⟩ = some (.int .u32 (PX k (j - 1) : Int)) := by rw [grown_cell HG.out (a := ⟨b4, _, none⟩) hb4 (by simp)]; exact HC4.out (j - 1) (by omega)
                  by_cases hge : PX k (j - 1) < PX k j
                  case neg =>
                    go_wp2
                    go_quiet (fail)
                    go_wp2
                    go_ret
                    exact ⟨false, rfl, fun h => by simp at h, grown_drewN HG.out _⟩
                  have HJ : Hid (∀ t, t + 1 < j + 1 → PX k t < PX k (t + 1)) := fun t ht => by
                    by_cases e : t + 1 = j
                    · subst e; simpa using hge
                    · exact HI.out t (by omega)
                case' neg =>
                  have hd : decide ((0 : Int) < (j : Int)) = false := decide_eq_false (by omega)
                  have HJ : Hid (∀ t, t + 1 < j + 1 → PX k t < PX k (t + 1)) := fun t ht => absurd ht (by omega)
                all_goals
                  cases ob
                  case true =>
                    go_wp2
                    go_quiet (fail)
                    go_wp2
                    go_ret
                    exact ⟨false, rfl, fun h => by simp at h, grown_drewN HG.out _⟩
                  go_wp2
                  go_quiet (fail)
                  go_wp2
                  go_roundw
                  case rel => exact ⟨j + 1, by omega, by go_num, grown_drewN HG.out _, HB.out.kept (grown_drewN (grown_refl wr none) _) (by simp), HJ.out⟩
                  case measure => simp [intOf]; omega
              · have HJ : Hid (∀ t, t + 1 < PN k → PX k t < PX k (t + 1)) := fun t ht => HI.out t (by omega)
                go_wp2
                go_roundw
                case rel => exact ⟨k + 1, by omega, by go_num, HG.out, HB.out, HP.out.step hpn HJ.out⟩
                case measure => simp [intOf]; omega
        · have e0 : k = np := by omega
          have HP1 : Hid (POK np PN PX) := by rw [← e0]; exact HP.out
          clear e0
          go_wp2
          go_ret
          exact ⟨true, rfl, fun _ => ⟨trivial, trivial, HD1.out, HP1.out⟩, HG.out⟩
end Go.Proofs.Qxb6614184aMods.L
