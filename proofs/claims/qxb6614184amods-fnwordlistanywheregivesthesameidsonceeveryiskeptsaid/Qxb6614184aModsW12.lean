/- zzBytes of the law: it answers; where it answers true the top lengths are small. -/
import Derived.Test.Qxb6614184aModsW11
namespace Go.Proofs.Qxb6614184aMods.L
open Go.RowKit

/-- It answers; where it answers true the two lengths are small. -/
def BP (nd np : Nat) (e : Ending) : Prop := ∃ o : Bool, e = .returned (.bool o) ∧ (o = true → nd ≤ 1048576 ∧ np ≤ 1048576)

set_option maxRecDepth 20000 in
set_option maxHeartbeats 8000000 in
theorem bytes_calls (s : ByteArray) (n1 n2 n3 : Int) (da : Option Addr) (dc : Nat) (dkv dlv pv : Value) (nd nk nl np : Nat) (KN LN PN : Nat → Nat) (KX LL PX : Nat → Nat → Nat) (YY : Nat → Nat → Nat → Nat) (w : World)
    (hk : Rows2 w none .u32 dkv nk KN KX) (hl : Rows3 w none .u16 dlv nl LN LL YY) (hp : Rows2 w none .u32 pv np PN PX) :
    Calls Trym.prog 21 #[.string s, .int .i64 n1, .int .i64 n2, .int .u64 n3, .slice da nd dc, dkv, dlv, pv] w fun e w' => BP nd np e ∧ w = w' := by
  obtain ⟨V1, ⟨a1, c1, rfl, hc1, hm1, hr1⟩, hV1⟩ := hk
  obtain ⟨V2, ⟨a2, c2, rfl, hc2, hm2, hr2⟩, hV2⟩ := hl
  obtain ⟨V3, ⟨a3, c3, rfl, hc3, hm3, hr3⟩, hV3⟩ := hp
  unfold maxLen at hm1 hm2 hm3
  have HR1 := hid hr1
  have HR2 := hid hr2
  have HR3 := hid hr3
  have HV1 := hid hV1
  have HV2 := hid hV2
  have HV3 := hid hV3
  clear hr1 hr2 hr3 hV1 hV2 hV3
  by_cases h1 : s.size ≤ 1048576
  case neg =>
    have b1 : decide ((1048576 : Int) < (s.size : Int)) = true := decide_eq_true (by omega)
    go_enter Trym.func21, Trym.ntmps21
    go_wp2
    go_ret
    exact ⟨⟨false, rfl, fun h => by simp at h⟩, rfl⟩
  have b1 : decide ((1048576 : Int) < (s.size : Int)) = false := decide_eq_false (by omega)
  by_cases h2 : nd ≤ 1048576
  case neg =>
    have b2 : decide ((1048576 : Int) < (nd : Int)) = true := decide_eq_true (by omega)
    go_enter Trym.func21, Trym.ntmps21
    go_wp2
    go_ret
    exact ⟨⟨false, rfl, fun h => by simp at h⟩, rfl⟩
  have b2 : decide ((1048576 : Int) < (nd : Int)) = false := decide_eq_false (by omega)
  by_cases h3 : s.size + nd ≤ 1048576
  case neg =>
    have b3 : decide ((1048576 : Int) < (s.size : Int) + (nd : Int)) = true := decide_eq_true (by omega)
    go_enter Trym.func21, Trym.ntmps21
    go_wp2
    go_ret
    exact ⟨⟨false, rfl, fun h => by simp at h⟩, rfl⟩
  have b3 : decide ((1048576 : Int) < (s.size : Int) + (nd : Int)) = false := decide_eq_false (by omega)
  by_cases h4 : nk ≤ 1048576
  case neg =>
    have b4 : decide ((1048576 : Int) < (nk : Int)) = true := decide_eq_true (by omega)
    go_enter Trym.func21, Trym.ntmps21
    go_wp2
    go_ret
    exact ⟨⟨false, rfl, fun h => by simp at h⟩, rfl⟩
  have b4 : decide ((1048576 : Int) < (nk : Int)) = false := decide_eq_false (by omega)
  by_cases h5 : s.size + nd + nk ≤ 1048576
  case neg =>
    have b5 : decide ((1048576 : Int) < (s.size : Int) + (nd : Int) + (nk : Int)) = true := decide_eq_true (by omega)
    go_enter Trym.func21, Trym.ntmps21
    go_wp2
    go_ret
    exact ⟨⟨false, rfl, fun h => by simp at h⟩, rfl⟩
  have b5 : decide ((1048576 : Int) < (s.size : Int) + (nd : Int) + (nk : Int)) = false := decide_eq_false (by omega)
  go_enter Trym.func21, Trym.ntmps21
  go_wp2
  go_loop [17, 18] (fun zv i => ∃ z k : Nat, z ≤ 1048576 ∧ zv = .int .i64 z ∧ k ≤ nk ∧ i = .int .i64 k) (fun _ i => nk - (intOf i).toNat)
  case atStart => exact ⟨s.size + nd + nk, 0, by omega, by go_num, by omega, rfl⟩
  case round =>
    obtain ⟨z, k, hz, rfl, hk, rfl⟩ := hrel
    by_cases hlt : k < nk
    · obtain ⟨b4, o4, rfl, hb4, _, hcell4⟩ := HR1.out (by omega)
      obtain ⟨a5, c5, e5, hc5, hm5, hr5⟩ := HV1.out k hlt
      have g5 : w.cell? ⟨b4, o4 + k, none⟩ = some (.slice a5 (KN k) c5) := by rw [hcell4 k hlt, e5]
      unfold maxLen at hm5
      clear hcell4 e5 hr5
      by_cases h6 : KN k ≤ 1048576
      case neg =>
        have b6 : decide ((1048576 : Int) < (KN k : Int)) = true := decide_eq_true (by omega)
        go_wp2
        go_ret
        exact ⟨⟨false, rfl, fun h => by simp at h⟩, rfl⟩
      have b6 : decide ((1048576 : Int) < (KN k : Int)) = false := decide_eq_false (by omega)
      by_cases h7 : z + KN k ≤ 1048576
      case neg =>
        have b7 : decide ((1048576 : Int) < (z : Int) + (KN k : Int)) = true := decide_eq_true (by omega)
        go_wp2
        go_ret
        exact ⟨⟨false, rfl, fun h => by simp at h⟩, rfl⟩
      have b7 : decide ((1048576 : Int) < (z : Int) + (KN k : Int)) = false := decide_eq_false (by omega)
      go_wp2
      go_round
      case rel => exact ⟨z + KN k, k + 1, by omega, by go_num, by omega, by go_num⟩
      case measure => simp [intOf]; omega
    · skip
      by_cases h8 : nl ≤ 1048576
      case neg =>
        have b8 : decide ((1048576 : Int) < (nl : Int)) = true := decide_eq_true (by omega)
        go_wp2
        go_ret
        exact ⟨⟨false, rfl, fun h => by simp at h⟩, rfl⟩
      have b8 : decide ((1048576 : Int) < (nl : Int)) = false := decide_eq_false (by omega)
      by_cases h9 : z + nl ≤ 1048576
      case neg =>
        have b9 : decide ((1048576 : Int) < (z : Int) + (nl : Int)) = true := decide_eq_true (by omega)
        go_wp2
        go_ret
        exact ⟨⟨false, rfl, fun h => by simp at h⟩, rfl⟩
      have b9 : decide ((1048576 : Int) < (z : Int) + (nl : Int)) = false := decide_eq_false (by omega)
      go_wp2
      go_loop [17, 19] (fun zv i => ∃ z k : Nat, z ≤ 1048576 ∧ zv = .int .i64 z ∧ k ≤ nl ∧ i = .int .i64 k) (fun _ i => nl - (intOf i).toNat)
      case atStart => exact ⟨z + nl, 0, by omega, by go_num, by omega, rfl⟩
      case round =>
        clear b9 h9 hz
        obtain ⟨z, k, hz, rfl, hk, rfl⟩ := hrel
        by_cases hlt : k < nl
        · obtain ⟨b4, o4, rfl, hb4, _, hcell4⟩ := HR2.out (by omega)
          obtain ⟨V5, ⟨a5, c5, e5, hc5, hm5, hr5⟩, hV5⟩ := HV2.out k hlt
          have g5 : w.cell? ⟨b4, o4 + k, none⟩ = some (.slice a5 (LN k) c5) := by rw [hcell4 k hlt, e5]
          unfold maxLen at hm5
          have HR5 := hid hr5
          have HV5 := hid hV5
          clear hcell4 e5 hr5 hV5
          by_cases h10 : LN k ≤ 1048576
          case neg =>
            have b10 : decide ((1048576 : Int) < (LN k : Int)) = true := decide_eq_true (by omega)
            go_wp2
            go_ret
            exact ⟨⟨false, rfl, fun h => by simp at h⟩, rfl⟩
          have b10 : decide ((1048576 : Int) < (LN k : Int)) = false := decide_eq_false (by omega)
          by_cases h11 : z + LN k ≤ 1048576
          case neg =>
            have b11 : decide ((1048576 : Int) < (z : Int) + (LN k : Int)) = true := decide_eq_true (by omega)
            go_wp2
            go_ret
            exact ⟨⟨false, rfl, fun h => by simp at h⟩, rfl⟩
          have b11 : decide ((1048576 : Int) < (z : Int) + (LN k : Int)) = false := decide_eq_false (by omega)
          go_wp2
          go_loop [17, 20] (fun zv i => ∃ z j : Nat, z ≤ 1048576 ∧ zv = .int .i64 z ∧ j ≤ LN k ∧ i = .int .i64 j) (fun _ i => LN k - (intOf i).toNat)
          case atStart => exact ⟨z + LN k, 0, by omega, by go_num, by omega, rfl⟩
          case round =>
            clear b11 h11 hz
            obtain ⟨z, j, hz, rfl, hj, rfl⟩ := hrel
            by_cases hjl : j < LN k
            · obtain ⟨b6, o6, rfl, hb6, _, hcell6⟩ := HR5.out (by omega)
              obtain ⟨a7, c7, e7, hc7, hm7, hr7⟩ := HV5.out j hjl
              have g7 : w.cell? ⟨b6, o6 + j, none⟩ = some (.slice a7 (LL k j) c7) := by rw [hcell6 j hjl, e7]
              unfold maxLen at hm7
              clear hcell6 e7 hr7
              by_cases h12 : LL k j ≤ 1048576
              case neg =>
                have b12 : decide ((1048576 : Int) < (LL k j : Int)) = true := decide_eq_true (by omega)
                go_wp2
                go_ret
                exact ⟨⟨false, rfl, fun h => by simp at h⟩, rfl⟩
              have b12 : decide ((1048576 : Int) < (LL k j : Int)) = false := decide_eq_false (by omega)
              by_cases h13 : z + LL k j ≤ 1048576
              case neg =>
                have b13 : decide ((1048576 : Int) < (z : Int) + (LL k j : Int)) = true := decide_eq_true (by omega)
                go_wp2
                go_ret
                exact ⟨⟨false, rfl, fun h => by simp at h⟩, rfl⟩
              have b13 : decide ((1048576 : Int) < (z : Int) + (LL k j : Int)) = false := decide_eq_false (by omega)
              go_wp2
              go_round
              case rel => exact ⟨z + LL k j, j + 1, by omega, by go_num, by omega, by go_num⟩
              case measure => simp [intOf]; omega
            · go_wp2
              go_round
              case rel => exact ⟨z, k + 1, by omega, rfl, by omega, by go_num⟩
              case measure => simp [intOf]; omega
        · skip
          by_cases h14 : np ≤ 1048576
          case neg =>
            have b14 : decide ((1048576 : Int) < (np : Int)) = true := decide_eq_true (by omega)
            go_wp2
            go_ret
            exact ⟨⟨false, rfl, fun h => by simp at h⟩, rfl⟩
          have b14 : decide ((1048576 : Int) < (np : Int)) = false := decide_eq_false (by omega)
          by_cases h15 : z + np ≤ 1048576
          case neg =>
            have b15 : decide ((1048576 : Int) < (z : Int) + (np : Int)) = true := decide_eq_true (by omega)
            go_wp2
            go_ret
            exact ⟨⟨false, rfl, fun h => by simp at h⟩, rfl⟩
          have b15 : decide ((1048576 : Int) < (z : Int) + (np : Int)) = false := decide_eq_false (by omega)
          go_wp2
          go_loop [17, 21] (fun zv i => ∃ z k : Nat, z ≤ 1048576 ∧ zv = .int .i64 z ∧ k ≤ np ∧ i = .int .i64 k) (fun _ i => np - (intOf i).toNat)
          case atStart => exact ⟨z + np, 0, by omega, by go_num, by omega, rfl⟩
          case round =>
            clear b15 h15 hz
            obtain ⟨z, k, hz, rfl, hk, rfl⟩ := hrel
            by_cases hlt : k < np
            · obtain ⟨b4, o4, rfl, hb4, _, hcell4⟩ := HR3.out (by omega)
              obtain ⟨a5, c5, e5, hc5, hm5, hr5⟩ := HV3.out k hlt
              have g5 : w.cell? ⟨b4, o4 + k, none⟩ = some (.slice a5 (PN k) c5) := by rw [hcell4 k hlt, e5]
              unfold maxLen at hm5
              clear hcell4 e5 hr5
              by_cases h16 : PN k ≤ 1048576
              case neg =>
                have b16 : decide ((1048576 : Int) < (PN k : Int)) = true := decide_eq_true (by omega)
                go_wp2
                go_ret
                exact ⟨⟨false, rfl, fun h => by simp at h⟩, rfl⟩
              have b16 : decide ((1048576 : Int) < (PN k : Int)) = false := decide_eq_false (by omega)
              by_cases h17 : z + PN k ≤ 1048576
              case neg =>
                have b17 : decide ((1048576 : Int) < (z : Int) + (PN k : Int)) = true := decide_eq_true (by omega)
                go_wp2
                go_ret
                exact ⟨⟨false, rfl, fun h => by simp at h⟩, rfl⟩
              have b17 : decide ((1048576 : Int) < (z : Int) + (PN k : Int)) = false := decide_eq_false (by omega)
              go_wp2
              go_round
              case rel => exact ⟨z + PN k, k + 1, by omega, by go_num, by omega, by go_num⟩
              case measure => simp [intOf]; omega
            · go_wp2
              go_ret
              exact ⟨⟨true, rfl, fun _ => ⟨h2, h14⟩⟩, rfl⟩
end Go.Proofs.Qxb6614184aMods.L
