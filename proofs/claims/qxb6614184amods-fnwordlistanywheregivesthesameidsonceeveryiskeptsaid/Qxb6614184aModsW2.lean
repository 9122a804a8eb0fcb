/- zzChunksOK. -/
import Derived.Test.Qxb6614184aModsW1
namespace Go.Proofs.Qxb6614184aMods.L
open Go.RowKit

/-- What zzChunksOK asks of keys and lists. -/
structure COK (n : Nat) (kx L : Nat → Nat) (Y : Nat → Nat → Nat) : Prop where
  key : ∀ i, i < n → kx i < 32
  inc : ∀ i, i + 1 < n → kx i < kx (i + 1)
  ne : ∀ i, i < n → 0 < L i
  linc : ∀ i, i < n → ∀ j, j + 1 < L i → Y i j < Y i (j + 1)

theorem COK.zero (kx L : Nat → Nat) (Y : Nat → Nat → Nat) : COK 0 kx L Y :=
  ⟨fun i hi => absurd hi (by omega), fun i hi => absurd hi (by omega), fun i hi => absurd hi (by omega), fun i hi => absurd hi (by omega)⟩

theorem COK.step {k : Nat} {kx L : Nat → Nat} {Y : Nat → Nat → Nat} (h : COK k kx L Y) (h1 : kx k < 32) (h2 : 0 < k → kx (k - 1) < kx k) (h3 : 0 < L k) (h4 : ∀ j, j + 1 < L k → Y k j < Y k (j + 1)) : COK (k + 1) kx L Y where
  key := fun i hi => by
    by_cases e : i = k
    · subst e; exact h1
    · exact h.key i (by omega)
  inc := fun i hi => by
    by_cases e : i + 1 = k
    · subst e; exact h2 (by omega)
    · exact h.inc i (by omega)
  ne := fun i hi => by
    by_cases e : i = k
    · subst e; exact h3
    · exact h.ne i (by omega)
  linc := fun i hi => by
    by_cases e : i = k
    · subst e; exact h4
    · exact h.linc i (by omega)

set_option maxHeartbeats 2000000 in
theorem chunksOK_calls (kv lv : Value) (n n' : Nat) (kx L : Nat → Nat) (Y : Nat → Nat → Nat) (w : World) (hk : Row w none kv n (U .u32 kx)) (hl : Rows2 w none .u16 lv n' L Y)
    (o : Bool) (ho : o = true ↔ (n = n' ∧ COK n kx L Y)) :
    Calls Trym.prog 10 #[kv, lv] w fun e w' => e = .returned (.bool o) ∧ ∃ nd, w' = w.drewN nd := by
  have HO : Hid (o = true ↔ (n = n' ∧ COK n kx L Y)) := ho
  have HF : Hid (¬ (n = n' ∧ COK n kx L Y) → false = o) := fun h => by
    cases e : o
    · rfl
    · exact absurd (ho.1 e) h
  clear ho
  obtain ⟨a1, c1, rfl, hc1, hm1, hr1⟩ := hk
  obtain ⟨V, ⟨a2, c2, rfl, hc2, hm2, hr2⟩, hV⟩ := hl
  unfold maxLen at hm1 hm2
  by_cases hne : n = n'
  · subst hne
    have HT : Hid (COK n kx L Y → true = o) := fun h => (HO.out.2 ⟨rfl, h⟩).symm
    by_cases hn : n = 0
    · subst hn
      go_enter Trym.func10, Trym.ntmps10
      go_wp2
      go_loopw [5] (fun i wr => i = .int .i64 0 ∧ wr = w) (fun i _ => 0)
      case atStart => exact ⟨rfl, rfl⟩
      case round =>
        obtain ⟨rfl, rfl⟩ := hrel
        go_wp2
        go_ret
        exact ⟨ret_bool (HT.out (COK.zero _ _ _)), 0, rfl⟩
    · obtain ⟨b1, o1, rfl, hb1, _, hcell1⟩ := hr1 (by omega)
      obtain ⟨b2, o2, rfl, hb2, _, hcell2⟩ := hr2 (by omega)
      have HV : Hid (∀ i, i < n → Row w none (V i) (L i) (U .u16 (Y i))) := hV
      have H1 : Hid (∀ i, i < n → w.cell? ⟨b1, o1 + i, none⟩ = some (U .u32 kx i)) := hcell1
      have H2 : Hid (∀ i, i < n → w.cell? ⟨b2, o2 + i, none⟩ = some (V i)) := hcell2
      clear hr1 hr2 hcell1 hcell2 hV
      go_enter Trym.func10, Trym.ntmps10
      go_wp2
      go_loopw [5] (fun i wr => ∃ k nd : Nat, k ≤ n ∧ i = .int .i64 k ∧ wr = w.drewN nd ∧ COK k kx L Y) (fun i _ => n - (intOf i).toNat)
      case atStart => exact ⟨0, 0, by omega, rfl, rfl, COK.zero _ _ _⟩
      case round =>
        obtain ⟨k, nd, hk, rfl, rfl, hok0⟩ := hrel
        have hok : Hid (COK k kx L Y) := hok0
        clear hok0
        by_cases hlt : k < n
        · have g1 := H1.out k hlt
          have g2 := H2.out k hlt
          obtain ⟨a3, c3, e3, hc3, hm3, hr3⟩ := HV.out k hlt
          rw [e3] at g2
          unfold U at g1
          unfold maxLen at hm3
          clear e3
          by_cases h32 : kx k < 32
          · by_cases hL : 0 < L k
            · obtain ⟨b3, o3, rfl, hb3, _, hcell3⟩ := hr3 hL
              have H3 : Hid (∀ i, i < L k → w.cell? ⟨b3, o3 + i, none⟩ = some (U .u16 (Y k) i)) := hcell3
              clear hcell3 hr3
              have hL0 : ((L k : Int) == 0) = false := beq_eq_false_iff_ne.2 (by omega)
              by_cases hk0 : 0 < k
              case' pos =>
                have g0 := H1.out (k - 1) (by omega)
                unfold U at g0
                by_cases hge : kx (k - 1) < kx k
                case neg =>
                  go_wp2
                  go_quiet (fail)
                  go_wp2
                  go_ret
                  exact ⟨ret_bool (HF.out fun h => hge (by have := h.2.inc (k - 1) (by omega); rwa [show k - 1 + 1 = k from by omega] at this)), _, World.drewN_drewN _ _ _⟩
                go_wp2
                go_quiet (fail)
                go_wp2
                have hp : Hid (0 < k → kx (k - 1) < kx k) := fun _ => hge
                clear hge g0
              case' neg =>
                have hd : decide ((0 : Int) < (k : Int)) = false := decide_eq_false (by omega)
                go_wp2
                go_quiet (fail)
                go_wp2
                have hp : Hid (0 < k → kx (k - 1) < kx k) := fun h => absurd h hk0
                clear hd
              all_goals
                go_loopw [7] (fun i wr => ∃ j nd : Nat, 1 ≤ j ∧ j ≤ L k ∧ i = .int .i64 j ∧ wr = w.drewN nd ∧ ∀ t, t + 1 < j → Y k t < Y k (t + 1)) (fun i _ => L k - (intOf i).toNat)
                case atStart => exact ⟨1, _, by omega, by omega, rfl, rfl, fun t ht => absurd ht (by omega)⟩
                case round =>
                  obtain ⟨j, nd', hj1, hj2, rfl, rfl, hinc0⟩ := hrel
                  have hinc : Hid (∀ t, t + 1 < j → Y k t < Y k (t + 1)) := hinc0
                  clear hinc0
                  by_cases hjl : j < L k
                  · have g4 := H3.out (j - 1) (by omega)
                    have g5 := H3.out j hjl
                    unfold U at g4 g5
                    by_cases hge : Y k (j - 1) < Y k j
                    · go_wp2
                      go_quiet (fail)
                      go_wp2
                      go_roundw
                      case rel =>
                        refine ⟨j + 1, _, by omega, by omega, by go_num, rfl, fun t ht => ?_⟩
                        by_cases e : t + 1 = j
                        · subst e; simpa using hge
                        · exact hinc.out t (by omega)
                      case measure => simp [intOf]; omega
                    · go_wp2
                      go_quiet (fail)
                      go_wp2
                      go_ret
                      exact ⟨ret_bool (HF.out fun h => hge (by have := h.2.linc k hlt (j - 1) (by omega); rwa [show j - 1 + 1 = j from by omega] at this)), _, World.drewN_drewN _ _ _⟩
                  · go_wp2
                    go_roundw
                    case rel => exact ⟨k + 1, _, by omega, by go_num, rfl, hok.out.step h32 hp.out hL (fun t ht => hinc.out t (by omega))⟩
                    case measure => simp [intOf]; omega
            · have hL0 : ((L k : Int) == 0) = true := beq_iff_eq.2 (by omega)
              by_cases hk0 : 0 < k
              · have g0 := H1.out (k - 1) (by omega)
                unfold U at g0
                by_cases hge : kx (k - 1) < kx k
                all_goals
                  go_wp2
                  go_quiet (fail)
                  go_wp2
                  go_ret
                  first | exact ⟨ret_bool (HF.out fun h => hL (h.2.ne k hlt)), _, rfl⟩ | exact ⟨ret_bool (HF.out fun h => hL (h.2.ne k hlt)), _, World.drewN_drewN _ _ _⟩
              · have hd : decide ((0 : Int) < (k : Int)) = false := decide_eq_false (by omega)
                go_wp2
                go_quiet (fail)
                go_wp2
                go_ret
                first | exact ⟨ret_bool (HF.out fun h => hL (h.2.ne k hlt)), _, rfl⟩ | exact ⟨ret_bool (HF.out fun h => hL (h.2.ne k hlt)), _, World.drewN_drewN _ _ _⟩
          · go_wp2
            go_ret
            exact ⟨ret_bool (HF.out fun h => h32 (h.2.key k hlt)), nd, rfl⟩
        · go_wp2
          go_ret
          exact ⟨ret_bool (HT.out (by rw [show n = k from by omega]; exact hok.out)), nd, rfl⟩
  · go_enter Trym.func10, Trym.ntmps10
    go_wp2
    go_ret
    exact ⟨ret_bool (HF.out fun h => hne h.1), 0, rfl⟩
end Go.Proofs.Qxb6614184aMods.L
