/- zzwlPlaces, zzSetEmpty. -/
import Derived.Test.Qxb6614184aModsW9
namespace Go.Proofs.Qxb6614184aMods.L
open Go.RowKit

/-- How many places the first m entries of a piece stand at. -/
def pl (p : Nat → Nat) : Nat → Nat
  | 0 => 0
  | m + 1 => pl p m + if m = 0 ∨ p (m - 1) / 2097152 ≠ p m / 2097152 then 1 else 0

theorem pl_le (p : Nat → Nat) : ∀ m, pl p m ≤ m
  | 0 => Nat.le_refl _
  | m + 1 => by
    have := pl_le p m
    show pl p m + (if _ then 1 else 0) ≤ m + 1
    split <;> omega

theorem pl_yes {p : Nat → Nat} {m : Nat} (h : m = 0 ∨ p (m - 1) / 2097152 ≠ p m / 2097152) : pl p (m + 1) = pl p m + 1 := by
  show pl p m + (if _ then 1 else 0) = _
  rw [if_pos h]
theorem pl_no {p : Nat → Nat} {m : Nat} (h : ¬ (m = 0 ∨ p (m - 1) / 2097152 ≠ p m / 2097152)) : pl p (m + 1) = pl p m := by
  show pl p m + (if _ then 1 else 0) = _
  rw [if_neg h]
  rfl

theorem tot_mono (f g : Nat → Nat) : ∀ n, (∀ i, i < n → f i ≤ g i) → tot f n ≤ tot g n
  | 0, _ => Nat.le_refl _
  | n + 1, h => by
    have h1 := tot_mono f g n (fun i hi => h i (by omega))
    have h2 := h n (by omega)
    show tot f n + f n ≤ tot g n + g n
    omega

/-- All places of the first n pieces. -/
def plAll (PN : Nat → Nat) (PX : Nat → Nat → Nat) (n : Nat) : Nat := tot (fun i => pl (PX i) (PN i)) n

theorem plAll_le (PN : Nat → Nat) (PX : Nat → Nat → Nat) (n : Nat) : plAll PN PX n ≤ tot PN n := tot_mono _ _ n (fun _ _ => pl_le _ _)

set_option maxHeartbeats 2000000 in
theorem places_calls (nd np : Nat) (da : Option Addr) (dc : Nat) (pv : Value) (PN : Nat → Nat) (PX : Nat → Nat → Nat) (w : World)
    (hp : Rows2 w none .u32 pv np PN PX) (hb : nd + tot PN np ≤ 1152921504606846976) (hPX : ∀ i j, PX i j < 4294967296) :
    Calls Trym.prog 17 #[.slice da nd dc, pv] w fun e w' => e = .returned (.int .i64 ((nd + plAll PN PX np : Nat) : Int)) ∧ w.grownBy w' none := by
  obtain ⟨V, ⟨a, c, rfl, hc, hm, hr⟩, hV⟩ := hp
  unfold maxLen at hm
  have HR := hid hr
  have HV := hid hV
  have HPX := hid hPX
  have HBD := hid hb
  clear hr hV hPX hb
  go_enter Trym.func17, Trym.ntmps17
  go_wp2
  go_loopw [5, 6] (fun s i wr => ∃ k : Nat, k ≤ np ∧ s = .int .i64 ((nd + plAll PN PX k : Nat) : Int) ∧ i = .int .i64 k ∧ ∃ q, wr = w.drewN q) (fun _ i _ => np - (intOf i).toNat)
  case atStart => exact ⟨0, by omega, rfl, rfl, 0, rfl⟩
  case round =>
    obtain ⟨k, hk, rfl, rfl, q, rfl⟩ := hrel
    by_cases hlt : k < np
    · obtain ⟨b, off, rfl, hbl, _, hcell⟩ := HR.out (by omega)
      obtain ⟨a1, c1, e1, hc1, hm1, hr1⟩ := HV.out k hlt
      have g1 : w.cell? ⟨b, off + k, none⟩ = some (.slice a1 (PN k) c1) := by rw [hcell k hlt, e1]
      unfold maxLen at hm1
      have HR1 := hid hr1
      have hbk : nd + plAll PN PX k + PN k ≤ 1152921504606846976 := by
        have h1 := plAll_le PN PX k
        have h2 := tot_le PN (show k + 1 ≤ np by omega)
        have h3 : tot PN (k + 1) = tot PN k + PN k := rfl
        have := HBD.out
        omega
      clear hcell hr1 e1
      go_wp2
      go_loopw [5, 8] (fun s i wr => ∃ j : Nat, j ≤ PN k ∧ s = .int .i64 ((nd + plAll PN PX k + pl (PX k) j : Nat) : Int) ∧ i = .int .i64 j ∧ ∃ q, wr = w.drewN q) (fun _ i _ => PN k - (intOf i).toNat)
      case atStart => exact ⟨0, by omega, rfl, rfl, _, rfl⟩
      case round =>
        obtain ⟨j, hj, rfl, rfl, q1, rfl⟩ := hrel
        have hpl := pl_le (PX k) j
        by_cases hjl : j < PN k
        · obtain ⟨b1, o1, rfl, hb1, _, hcell1⟩ := HR1.out (by omega)
          have g2 : w.cell? ⟨b1, o1 + j, none⟩ = some (.int .u32 (PX k j : Int)) := hcell1 j hjl
          by_cases hj0 : j = 0
          · have bj : ((j : Int) == 0) = true := beq_iff_eq.2 (by omega)
            have HP := hid (pl_yes (p := PX k) (m := j) (Or.inl hj0))
            clear hcell1 hj0
            go_wp2
            go_quiet (fail)
            go_wp2
            go_roundw
            case rel => exact ⟨j + 1, by omega, by rw [HP.out]; go_num, by go_num, _, rfl⟩
            case measure => simp [intOf]; omega
          · have bj : ((j : Int) == 0) = false := beq_eq_false_iff_ne.2 (by omega)
            have g3 : w.cell? ⟨b1, o1 + (j - 1), none⟩ = some (.int .u32 (PX k (j - 1) : Int)) := hcell1 (j - 1) (by omega)
            by_cases hne : PX k (j - 1) / 2097152 = PX k j / 2097152
            · have bn : ((PX k (j - 1) : Int) / 2097152 != (PX k j : Int) / 2097152) = false := by rw [bne_eq_false_iff_eq]; omega
              have HP := hid (pl_no (p := PX k) (m := j) (by rintro (h | h); exact hj0 h; exact h hne))
              have hj1 : 0 < j := by omega
              clear hcell1 hne hj0
              go_wp2
              go_quiet (fail)
              go_wp2
              go_roundw
              case rel => exact ⟨j + 1, by omega, by rw [HP.out], by go_num, _, rfl⟩
              case measure => simp [intOf]; omega
            · have bn : ((PX k (j - 1) : Int) / 2097152 != (PX k j : Int) / 2097152) = true := by rw [bne_iff_ne]; omega
              have HP := hid (pl_yes (p := PX k) (m := j) (Or.inr hne))
              have hj1 : 0 < j := by omega
              clear hcell1 hne hj0
              go_wp2
              go_quiet (fail)
              go_wp2
              go_roundw
              case rel => exact ⟨j + 1, by omega, by rw [HP.out]; go_num, by go_num, _, rfl⟩
              case measure => simp [intOf]; omega
        · have e0 : Hid (nd + plAll PN PX k + pl (PX k) j = nd + plAll PN PX (k + 1)) := by
            show nd + plAll PN PX k + pl (PX k) j = nd + (plAll PN PX k + pl (PX k) (PN k))
            rw [show j = PN k from by omega]
            omega
          go_wp2
          go_roundw
          case rel => exact ⟨k + 1, by omega, by rw [← e0.out], by go_num, _, rfl⟩
          case measure => simp [intOf]; omega
    · have e0 : Hid (k = np) := by show k = np; omega
      go_wp2
      go_ret
      exact ⟨by rw [e0.out]; rfl, grown_drewN (grown_refl _ _) _⟩

theorem nil_eql (w : World) : (binOp .eql 26 (.slice none 0 0) (.slice none 0 0)).run Trym.prog w = .ok (.bool true) w := by kernel_rfl

theorem setEmpty_calls (w : World) : Calls Trym.prog 18 #[.agg #[.slice none 0 0, .slice none 0 0, .int .i64 0]] w fun e w' => e = .returned (.bool true) ∧ w.grownBy w' none := by
  have hnil := nil_eql
  go_enter Trym.func18, Trym.ntmps18
  go_wp2_with fail
  refine (chunkCount_calls _ _ _ _ _ _).mono ?_
  rintro e w1 ⟨rfl, hg1⟩
  have HG1 := hid hg1
  obtain ⟨x0, x1, x2⟩ := box3 w _ _ _ 39 w1 hg1
  clear hg1
  go_wp2_with fail
  refine (flat_calls _ _ _ _ _ _ _ _).mono ?_
  rintro e w2 ⟨rfl, hg2⟩
  have HG2 := hid (grown_trans0 HG1.out hg2)
  clear hg2 x0 x1 x2
  obtain ⟨x0, x1, x2⟩ := box3 w _ _ _ 39 w2 HG2.out
  go_wp2_with fail
  refine (len_calls _ _ _ _ _ _ _ _).mono ?_
  rintro e w3 ⟨rfl, hg3⟩
  have HG3 := hid (grown_trans0 HG2.out hg3)
  clear hg3
  go_wp2
  go_ret
  exact ⟨rfl, grown_trans0 (World.grownBy_alloc _ _ _) HG3.out⟩
end Go.Proofs.Qxb6614184aMods.L
