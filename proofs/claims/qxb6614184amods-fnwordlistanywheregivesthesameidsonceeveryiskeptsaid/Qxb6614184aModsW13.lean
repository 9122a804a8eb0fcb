/- zzwlSize: it answers. -/
import Derived.Test.Qxb6614184aModsW12
namespace Go.Proofs.Qxb6614184aMods.L
open Go.RowKit

/-- It answers. -/
def SP (e : Ending) : Prop := ∃ o : Bool, e = .returned (.bool o)

set_option maxRecDepth 20000 in
set_option maxHeartbeats 16000000 in
theorem size_calls (s : ByteArray) (hs : s.size ≤ maxLen) (da : Option Addr) (dc : Nat) (dkv dlv pv : Value) (nd nk nl np : Nat) (KN LN PN : Nat → Nat) (KX LL PX : Nat → Nat → Nat) (YY : Nat → Nat → Nat → Nat) (w : World) (hnd : nd ≤ maxLen)
    (hk : Rows2 w none .u32 dkv nk KN KX) (hl : Rows3 w none .u16 dlv nl LN LL YY) (hp : Rows2 w none .u32 pv np PN PX) :
    Calls Trym.prog 7 #[.string s, .slice da nd dc, dkv, dlv, pv, .slice none 0 0, .slice none 0 0] w fun e w' => SP e ∧ w = w' := by
  obtain ⟨V1, ⟨a1, c1, rfl, hc1, hm1, hr1⟩, hV1⟩ := hk
  obtain ⟨V2, ⟨a2, c2, rfl, hc2, hm2, hr2⟩, hV2⟩ := hl
  obtain ⟨V3, ⟨a3, c3, rfl, hc3, hm3, hr3⟩, hV3⟩ := hp
  unfold maxLen at hm1 hm2 hm3 hs hnd
  have HR1 := hid hr1
  have HR2 := hid hr2
  have HR3 := hid hr3
  have HV1 := hid hV1
  have HV2 := hid hV2
  have HV3 := hid hV3
  clear hr1 hr2 hr3 hV1 hV2 hV3
  go_enter Trym.func7, Trym.ntmps7
  go_wp2_with fail
  refine (grow_calls _ _ _ (by omega) (by omega) (by omega) _).mono ?_
  rintro e w1 ⟨t1, rfl, ht1, hw1⟩
  subst hw1
  go_wp2_with fail
  refine (grow_calls _ _ _ (by omega) (by omega) (by omega) _).mono ?_
  rintro e w1 ⟨t2, rfl, ht2, hw1⟩
  subst hw1
  go_wp2_with fail
  refine (grow_calls _ _ _ (by omega) (by omega) (by omega) _).mono ?_
  rintro e w1 ⟨t3, rfl, ht3, hw1⟩
  subst hw1
  go_wp2_with fail
  refine (grow_calls _ _ _ (by omega) (by omega) (by omega) _).mono ?_
  rintro e w1 ⟨t4, rfl, ht4, hw1⟩
  subst hw1
  go_wp2_with fail
  refine (grow_calls _ _ _ (by omega) (by omega) (by omega) _).mono ?_
  rintro e w1 ⟨t5, rfl, ht5, hw1⟩
  subst hw1
  go_wp2_with fail
  refine (grow_calls _ _ _ (by omega) (by omega) (by omega) _).mono ?_
  rintro e w1 ⟨t6, rfl, ht6, hw1⟩
  subst hw1
  go_wp2_with fail
  refine (grow_calls _ _ _ (by omega) (by omega) (by omega) _).mono ?_
  rintro e w1 ⟨t7, rfl, ht7, hw1⟩
  subst hw1
  go_wp2
  go_loop [15, 16] (fun tv i => ∃ (t : Int) (k : Nat), -1 ≤ t ∧ t ≤ 1048576 ∧ tv = .int .i64 t ∧ k ≤ nk ∧ i = .int .i64 k) (fun _ i => nk - (intOf i).toNat)
  case atStart => exact ⟨t7, 0, by omega, by omega, rfl, by omega, rfl⟩
  case round =>
    obtain ⟨t, k, ht1, ht2, rfl, hk, rfl⟩ := hrel
    by_cases hgo : k < nk ∧ 0 ≤ t
    · obtain ⟨hlt, ht0⟩ := hgo
      have bt : decide ((0 : Int) ≤ t) = true := decide_eq_true ht0
      obtain ⟨b4, o4, rfl, hb4, _, hcell4⟩ := HR1.out (by omega)
      obtain ⟨a5, c5, e5, hc5, hm5, hr5⟩ := HV1.out k hlt
      have g5 : w.cell? ⟨b4, o4 + k, none⟩ = some (.slice a5 (KN k) c5) := by rw [hcell4 k hlt, e5]
      unfold maxLen at hm5
      clear hcell4 e5 hr5
      go_wp2_with fail
      refine (grow_calls _ _ _ (by omega) (by omega) (by omega) _).mono ?_
      rintro e w1 ⟨t8, rfl, ht8, hw1⟩
      subst hw1
      go_wp2
      go_round
      case rel => exact ⟨t8, k + 1, by omega, by omega, rfl, by omega, by go_num⟩
      case measure => simp [intOf]; omega
    · by_cases hlt : k < nk
      case' pos =>
        have bt : decide ((0 : Int) ≤ t) = false := decide_eq_false (by omega)
        clear hgo
      case' neg =>
        clear hgo
      all_goals
      go_wp2
      go_loop [15, 17] (fun tv i => ∃ (t : Int) (k : Nat), -1 ≤ t ∧ t ≤ 1048576 ∧ tv = .int .i64 t ∧ k ≤ nl ∧ i = .int .i64 k) (fun _ i => nl - (intOf i).toNat)
      case atStart => exact ⟨t, 0, by omega, by omega, rfl, by omega, rfl⟩
      case round =>
        obtain ⟨t, k, ht1, ht2, rfl, hk, rfl⟩ := hrel
        by_cases hgo : k < nl ∧ 0 ≤ t
        · obtain ⟨hlt, ht0⟩ := hgo
          have bt : decide ((0 : Int) ≤ t) = true := decide_eq_true ht0
          obtain ⟨b4, o4, rfl, hb4, _, hcell4⟩ := HR2.out (by omega)
          obtain ⟨V5, ⟨a5, c5, e5, hc5, hm5, hr5⟩, hV5⟩ := HV2.out k hlt
          have g5 : w.cell? ⟨b4, o4 + k, none⟩ = some (.slice a5 (LN k) c5) := by rw [hcell4 k hlt, e5]
          unfold maxLen at hm5
          have HR5 := hid hr5
          have HV5 := hid hV5
          clear hcell4 e5 hr5 hV5
          go_wp2_with fail
          refine (grow_calls _ _ _ (by omega) (by omega) (by omega) _).mono ?_
          rintro e w1 ⟨t9, rfl, ht9, hw1⟩
          subst hw1
          go_wp2
          go_loop [15, 18] (fun tv i => ∃ (t : Int) (j : Nat), -1 ≤ t ∧ t ≤ 1048576 ∧ tv = .int .i64 t ∧ j ≤ LN k ∧ i = .int .i64 j) (fun _ i => LN k - (intOf i).toNat)
          case atStart => exact ⟨t9, 0, by omega, by omega, rfl, by omega, rfl⟩
          case round =>
            clear bt
            obtain ⟨t, j, ht1, ht2, rfl, hj, rfl⟩ := hrel
            by_cases hgo : j < LN k ∧ 0 ≤ t
            · obtain ⟨hjl, ht0⟩ := hgo
              have bt : decide ((0 : Int) ≤ t) = true := decide_eq_true ht0
              obtain ⟨b6, o6, rfl, hb6, _, hcell6⟩ := HR5.out (by omega)
              obtain ⟨a7, c7, e7, hc7, hm7, hr7⟩ := HV5.out j hjl
              have g7 : w.cell? ⟨b6, o6 + j, none⟩ = some (.slice a7 (LL k j) c7) := by rw [hcell6 j hjl, e7]
              unfold maxLen at hm7
              clear hcell6 e7 hr7
              go_wp2_with fail
              refine (grow_calls _ _ _ (by omega) (by omega) (by omega) _).mono ?_
              rintro e w1 ⟨t10, rfl, ht10, hw1⟩
              subst hw1
              go_wp2
              go_round
              case rel => exact ⟨t10, j + 1, by omega, by omega, rfl, by omega, by go_num⟩
              case measure => simp [intOf]; omega
            · by_cases hjl : j < LN k
              case' pos =>
                have bt : decide ((0 : Int) ≤ t) = false := decide_eq_false (by omega)
                clear hgo
              case' neg =>
                clear hgo
              all_goals
                go_wp2
                go_round
                case rel => exact ⟨t, k + 1, by omega, by omega, rfl, by omega, by go_num⟩
                case measure => simp [intOf]; omega
        · by_cases hlt : k < nl
          case' pos =>
            have bt : decide ((0 : Int) ≤ t) = false := decide_eq_false (by omega)
            clear hgo
          case' neg =>
            clear hgo
          all_goals
          go_wp2
          go_loop [15, 19] (fun tv i => ∃ (t : Int) (k : Nat), -1 ≤ t ∧ t ≤ 1048576 ∧ tv = .int .i64 t ∧ k ≤ np ∧ i = .int .i64 k) (fun _ i => np - (intOf i).toNat)
          case atStart => exact ⟨t, 0, by omega, by omega, rfl, by omega, rfl⟩
          case round =>
            obtain ⟨t, k, ht1, ht2, rfl, hk, rfl⟩ := hrel
            by_cases hgo : k < np ∧ 0 ≤ t
            · obtain ⟨hlt, ht0⟩ := hgo
              have bt : decide ((0 : Int) ≤ t) = true := decide_eq_true ht0
              obtain ⟨b4, o4, rfl, hb4, _, hcell4⟩ := HR3.out (by omega)
              obtain ⟨a5, c5, e5, hc5, hm5, hr5⟩ := HV3.out k hlt
              have g5 : w.cell? ⟨b4, o4 + k, none⟩ = some (.slice a5 (PN k) c5) := by rw [hcell4 k hlt, e5]
              unfold maxLen at hm5
              clear hcell4 e5 hr5
              go_wp2_with fail
              refine (grow_calls _ _ _ (by omega) (by omega) (by omega) _).mono ?_
              rintro e w1 ⟨t11, rfl, ht11, hw1⟩
              subst hw1
              go_wp2
              go_round
              case rel => exact ⟨t11, k + 1, by omega, by omega, rfl, by omega, by go_num⟩
              case measure => simp [intOf]; omega
            · by_cases hlt : k < np
              case' pos =>
                have bt : decide ((0 : Int) ≤ t) = false := decide_eq_false (by omega)
                clear hgo
              case' neg =>
                clear hgo
              all_goals
              go_wp2
              go_loop [15, 20] (fun tv i => i = .int .i64 0 ∧ ∃ t : Int, tv = .int .i64 t) (fun _ _ => 0)
              case atStart => exact ⟨rfl, _, rfl⟩
              case round =>
                obtain ⟨rfl, t, rfl⟩ := hrel
                go_wp2
                go_ret
                exact ⟨⟨_, rfl⟩, rfl⟩
end Go.Proofs.Qxb6614184aMods.L
