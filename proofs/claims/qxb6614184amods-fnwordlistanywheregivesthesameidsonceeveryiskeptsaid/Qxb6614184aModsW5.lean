/- zzBuildList. -/
import Derived.Test.Qxb6614184aModsW4
import Derived.Deep.RegionHeld
namespace Go.Proofs.Qxb6614184aMods.L
open Go.RowKit

/-- Four cells of the block g. -/
structure C4 (w : World) (g i : Nat) (v0 v1 v2 v3 : Value) : Prop where
  c0 : w.cell? ⟨g, i * 4, none⟩ = some v0
  c1 : w.cell? ⟨g, i * 4 + 1, none⟩ = some v1
  c2 : w.cell? ⟨g, i * 4 + 2, none⟩ = some v2
  c3 : w.cell? ⟨g, i * 4 + 3, none⟩ = some v3

theorem C4.kept {w w1 : World} {b i : Nat} {v0 v1 v2 v3 : Value} {r : Option Nat} (h : C4 w b i v0 v1 v2 v3) (hg : w.grownBy w1 r) (hb : b < w.heap.size) (hr : r ≠ some b) : C4 w1 b i v0 v1 v2 v3 :=
  ⟨by rw [grown_cell hg (a := ⟨b, _, none⟩) hb hr]; exact h.c0, by rw [grown_cell hg (a := ⟨b, _, none⟩) hb hr]; exact h.c1, by rw [grown_cell hg (a := ⟨b, _, none⟩) hb hr]; exact h.c2, by rw [grown_cell hg (a := ⟨b, _, none⟩) hb hr]; exact h.c3⟩

theorem put4v (w : World) (g m k : Nat) (u0 u1 u2 u3 : Value) (h : Free w g m) (hk : k * 4 + 3 < m) (w2 : World)
    (e : w2 = (((w.setCell ⟨g, k * 4, none⟩ u0).setCell ⟨g, k * 4 + 1, none⟩ u1).setCell ⟨g, k * 4 + 2, none⟩ u2).setCell ⟨g, k * 4 + 3, none⟩ u3) :
    w.grownBy w2 (some g) ∧ Free w2 g m ∧ C4 w2 g k u0 u1 u2 u3 ∧ ∀ i v0 v1 v2 v3, i ≠ k → C4 w g i v0 v1 v2 v3 → C4 w2 g i v0 v1 v2 v3 := by
  obtain ⟨_, v0, c0⟩ := h.2 (k * 4) (by omega)
  have s0 := cell_set w g (k * 4) u0 v0 c0
  have F0 := h.set (k * 4) u0
  have G0 := grown_setCell w ⟨g, k * 4, none⟩ u0
  generalize w.setCell ⟨g, k * 4, none⟩ u0 = wa at *
  obtain ⟨_, v1, c1⟩ := F0.2 (k * 4 + 1) (by omega)
  have s1 := cell_set wa g (k * 4 + 1) u1 v1 c1
  have F1 := F0.set (k * 4 + 1) u1
  have G1 := grown_set G0 ⟨g, k * 4 + 1, none⟩ u1 (Or.inl rfl)
  generalize wa.setCell ⟨g, k * 4 + 1, none⟩ u1 = wb at *
  obtain ⟨_, v2, c2⟩ := F1.2 (k * 4 + 2) (by omega)
  have s2 := cell_set wb g (k * 4 + 2) u2 v2 c2
  have F2 := F1.set (k * 4 + 2) u2
  have G2 := grown_set G1 ⟨g, k * 4 + 2, none⟩ u2 (Or.inl rfl)
  generalize wb.setCell ⟨g, k * 4 + 2, none⟩ u2 = wc at *
  obtain ⟨_, v3, c3⟩ := F2.2 (k * 4 + 3) (by omega)
  have s3 := cell_set wc g (k * 4 + 3) u3 v3 c3
  have F3 := F2.set (k * 4 + 3) u3
  have G3 := grown_set G2 ⟨g, k * 4 + 3, none⟩ u3 (Or.inl rfl)
  generalize wc.setCell ⟨g, k * 4 + 3, none⟩ u3 = wd at *
  subst e
  have far : ∀ y, y ≠ k * 4 → y ≠ k * 4 + 1 → y ≠ k * 4 + 2 → y ≠ k * 4 + 3 → w2.cell? ⟨g, y, none⟩ = w.cell? ⟨g, y, none⟩ := fun y h0 h1 h2 h3 => by
    rw [s3 y, if_neg h3, s2 y, if_neg h2, s1 y, if_neg h1, s0 y, if_neg h0]
  refine ⟨G3, F3, ⟨?_, ?_, ?_, ?_⟩, fun i v0 v1 v2 v3 hi hc => ⟨?_, ?_, ?_, ?_⟩⟩
  · have h1 : ¬ k * 4 = k * 4 + 3 := by omega
    have h2 : ¬ k * 4 = k * 4 + 2 := by omega
    have h3 : ¬ k * 4 = k * 4 + 1 := by omega
    rw [s3, if_neg h1, s2, if_neg h2, s1, if_neg h3, s0, if_pos rfl]
  · have h1 : ¬ k * 4 + 1 = k * 4 + 3 := by omega
    have h2 : ¬ k * 4 + 1 = k * 4 + 2 := by omega
    rw [s3, if_neg h1, s2, if_neg h2, s1, if_pos rfl]
  · have h1 : ¬ k * 4 + 2 = k * 4 + 3 := by omega
    rw [s3, if_neg h1, s2, if_pos rfl]
  · rw [s3, if_pos rfl]
  · rw [far _ (by omega) (by omega) (by omega) (by omega)]; exact hc.c0
  · rw [far _ (by omega) (by omega) (by omega) (by omega)]; exact hc.c1
  · rw [far _ (by omega) (by omega) (by omega) (by omega)]; exact hc.c2
  · rw [far _ (by omega) (by omega) (by omega) (by omega)]; exact hc.c3

theorem info66 : (Trym.prog.info? 66).map (fun i => (i.zero, i.size, i.bytes)) = some (some (.agg #[.int .u16 0, .slice none 0 0, .slice none 0 0, .int .i64 0]), 4, 64) := by kernel_rfl

theorem make_dense (w : World) (n : Nat) (hn : n ≤ 1048576) : ∃ w', (Instr.makeSlice 64 (.int .i64 (n : Int)) (.int .i64 (n : Int))).run Trym.prog w = .ok (.slice (some ⟨w.heap.size, 0, none⟩) n n) w' ∧ Free w' w.heap.size (n * 4) ∧ w.grownBy w' none := by
  obtain ⟨i, hi, hzz⟩ := Option.map_eq_some_iff.1 info66
  simp only [Prod.mk.injEq] at hzz
  obtain ⟨hz, hs, hb⟩ := hzz
  have hr := run_make (P := Trym.prog) w 64 66 i _ Trym.underlying64 hi hz .i64 .i64 (n : Int) (n : Int) (by omega) (Int.le_refl _) (by rw [hb]; omega) (by omega)
  simp only [Int.toNat_natCast, hs] at hr
  exact ⟨_, hr, free_new w _ _ _, World.grownBy_alloc _ _ _⟩

/-- Place i of the dense places at block g: its set of chunks. -/
def DenseAt (w : World) (r : Option Nat) (g i n : Nat) (kx L : Nat → Nat) (Y : Nat → Nat → Nat) : Prop :=
  ∃ p : Int, ∃ b, C4 w g i (.int .u16 p) (.slice (some ⟨b, 0, none⟩) n n) (.slice none 0 0) (.int .i64 (tot L n : Int)) ∧ Chunks w r b n kx L Y

theorem DenseAt.kept0 {w w1 : World} {r : Option Nat} {g i n : Nat} {kx L : Nat → Nat} {Y : Nat → Nat → Nat} (h : DenseAt w r g i n kx L Y) (hg : w.grownBy w1 none) (hb : g < w.heap.size) : DenseAt w1 r g i n kx L Y := by
  obtain ⟨p, b, h1, h2⟩ := h
  exact ⟨p, b, h1.kept hg hb (by simp), h2.kept0 hg⟩

theorem DenseAt.any {w : World} {r : Option Nat} {g i n : Nat} {kx L : Nat → Nat} {Y : Nat → Nat → Nat} (h : DenseAt w r g i n kx L Y) : DenseAt w none g i n kx L Y := by
  obtain ⟨p, b, h1, h2⟩ := h
  exact ⟨p, b, h1, h2.any⟩

/-- A word list at block p: its dense places, its pieces, its set of all. -/
structure ListAt (w : World) (p : Nat) (nd : Nat) (KN : Nat → Nat) (KX LL : Nat → Nat → Nat) (YY : Nat → Nat → Nat → Nat) (pv : Value) (every : Option Addr) : Prop where
  lt : p < w.heap.size
  dense : ∃ g, w.cell? ⟨p, 4, none⟩ = some (.slice (some ⟨g, 0, none⟩) nd nd) ∧ g < w.heap.size ∧ ∀ i, i < nd → DenseAt w none g i (KN i) (KX i) (LL i) (YY i)
  pieces : w.cell? ⟨p, 5, none⟩ = some pv
  every : w.cell? ⟨p, 6, none⟩ = some (.pointer every)

set_option maxHeartbeats 4000000 in
theorem buildList_calls (s : ByteArray) (n1 n2 n3 : Int) (dpv dkv dlv pv : Value) (every : Option Addr) (nd np : Nat) (DP KN : Nat → Nat) (KX LL : Nat → Nat → Nat) (YY : Nat → Nat → Nat → Nat) (f : Nat → Value) (w : World)
    (hd : Row w none dpv nd (U .u16 DP)) (hk : Rows2 w none .u32 dkv nd KN KX) (hl : Rows3 w none .u16 dlv nd KN LL YY) (hp : Row w none pv np f)
    (hn : nd ≤ 1048576) (hKN : ∀ i, i < nd → KN i ≤ 1048576) (hL : ∀ i, i < nd → ∀ j, j < KN i → LL i j < 4294967296) (hT : ∀ i, i < nd → tot (LL i) (KN i) ≤ 1099511627776) :
    Calls Trym.prog 14 #[.string s, .int .i64 n1, .int .i64 n2, .int .u64 n3, dpv, dkv, dlv, pv, .pointer every] w fun e w' => ∃ p, e = .returned (.pointer (some ⟨p, 0, none⟩)) ∧ w.grownBy w' none ∧ ListAt w' p nd KN KX LL YY pv every := by
  obtain ⟨a0, c0, rfl, hc0, hm0, hr0⟩ := hd
  obtain ⟨V1, ⟨a1, c1, rfl, hc1, hm1, hr1⟩, hV1⟩ := hk
  obtain ⟨V2, ⟨a2, c2, rfl, hc2, hm2, hr2⟩, hV2⟩ := hl
  obtain ⟨a3, c3, rfl, hc3, hm3, hr3⟩ := hp
  clear hr3
  unfold maxLen at hm0 hm1 hm2 hm3
  have HV1 := hid hV1
  have HV2 := hid hV2
  have HR0 := hid hr0
  have HR1 := hid hr1
  have HR2 := hid hr2
  have HKN := hid hKN
  have HL := hid hL
  have HT := hid hT
  clear hV1 hV2 hr0 hr1 hr2 hKN hL hT
  obtain ⟨w1, hmk, hF1, hg1⟩ := make_dense w nd hn
  have HF1 := hid hF1
  have HG1 := hid hg1
  clear hF1 hg1
  go_enter Trym.func14, Trym.ntmps14
  go_wp2
  go_loopw [20] (fun i wr => ∃ k : Nat, k ≤ nd ∧ i = .int .i64 k ∧ w.grownBy wr none ∧ Free wr w.heap.size (nd * 4) ∧ ∀ i, i < k → DenseAt wr (some w.heap.size) w.heap.size i (KN i) (KX i) (LL i) (YY i)) (fun i _ => nd - (intOf i).toNat)
  case atStart => exact ⟨0, by omega, rfl, HG1.out, HF1.out, fun i hi => absurd hi (by omega)⟩
  case round =>
    obtain ⟨k, hk, rfl, hg0, hF0, hD⟩ := hrel
    clear HG1 HF1 hmk
    have HG := hid hg0
    have HF := hid hF0
    have HD := hid hD
    clear hg0 hF0 hD
    by_cases hlt : k < nd
    · obtain ⟨b0, o0, rfl, hb0, _, hcell0⟩ := HR0.out (by omega)
      obtain ⟨b1, o1, rfl, hb1, _, hcell1⟩ := HR1.out (by omega)
      obtain ⟨b2, o2, rfl, hb2, _, hcell2⟩ := HR2.out (by omega)
      have hz : w.heap.size < wr.heap.size := HF.out.1
      have g0 : wr.cell? ⟨b0, o0 + k, none⟩ = some (.int .u16 (DP k : Int)) := by rw [grown_cell HG.out (a := ⟨b0, o0 + k, none⟩) hb0 (by simp)]; exact hcell0 k hlt
      have g1 : wr.cell? ⟨b1, o1 + k, none⟩ = some (V1 k) := by rw [grown_cell HG.out (a := ⟨b1, o1 + k, none⟩) hb1 (by simp)]; exact hcell1 k hlt
      have g2 : wr.cell? ⟨b2, o2 + k, none⟩ = some (V2 k) := by rw [grown_cell HG.out (a := ⟨b2, o2 + k, none⟩) hb2 (by simp)]; exact hcell2 k hlt
      have z0 : b0 < wr.heap.size := by omega
      have z1 : b1 < wr.heap.size := by omega
      have z2 : b2 < wr.heap.size := by omega
      have n0 : ¬ w.heap.size = b0 := by omega
      have n1' : ¬ w.heap.size = b1 := by omega
      have n2' : ¬ w.heap.size = b2 := by omega
      clear hcell0 hcell1 hcell2 HR0 HR1 HR2
      go_wp2
      go_region_held (fun w' => w'.cell? ⟨b0, o0 + k, none⟩ = some (.int .u16 (DP k : Int)) ∧ w'.cell? ⟨b1, o1 + k, none⟩ = some (V1 k) ∧ w'.cell? ⟨b2, o2 + k, none⟩ = some (V2 k)) (go_keep)
        (first
          | (go_at_call 13; refine (buildSet_calls (V1 k) (V2 k) (KN k) (KX k) (LL k) (YY k) _ (some w.heap.size) ?_ ?_ ?_ (HKN.out k hlt) (HL.out k hlt) (HT.out k hlt)).mono ?_; (intro b e; cases e; exact hz); exact ((HV1.out k hlt).away _ (Nat.le_refl _)).kept0 (grown_drew HG.out); exact ((HV2.out k hlt).away _ (Nat.le_refl _)).kept0 (grown_drew HG.out); rintro e w1 ⟨gs, rfl, hg1, hC1⟩; have HG2 := hid (grown_trans0 (grown_drew (grown_refl wr none)) hg1); have HC1 := hid hC1; clear hg1 hC1; have q0 : w1.cell? ⟨b0, o0 + k, none⟩ = some (.int .u16 (DP k : Int)) := (by rw [grown_cell HG2.out (a := ⟨b0, o0 + k, none⟩) z0 (by simp)]; exact g0); have q1 : w1.cell? ⟨b1, o1 + k, none⟩ = some (V1 k) := (by rw [grown_cell HG2.out (a := ⟨b1, o1 + k, none⟩) z1 (by simp)]; exact g1); have q2 : w1.cell? ⟨b2, o2 + k, none⟩ = some (V2 k) := (by rw [grown_cell HG2.out (a := ⟨b2, o2 + k, none⟩) z2 (by simp)]; exact g2); have y0 := Nat.lt_of_lt_of_le z0 HG2.out.size; have y1 := Nat.lt_of_lt_of_le z1 HG2.out.size; have y2 := Nat.lt_of_lt_of_le z2 HG2.out.size)
          | (go_at_call 28; refine (newDense_calls _ _ _ _ _ _ _ _ _).mono ?_; rintro e w3 ⟨rfl, hg3⟩; have HG3 := hid hg3; clear hg3; have q3 : w3.cell? ⟨b0, o0 + k, none⟩ = some (.int .u16 (DP k : Int)) := (by rw [grown_cell HG3.out (a := ⟨b0, o0 + k, none⟩) y0 (by simp)]; exact q0); have q4 : w3.cell? ⟨b1, o1 + k, none⟩ = some (V1 k) := (by rw [grown_cell HG3.out (a := ⟨b1, o1 + k, none⟩) y1 (by simp)]; exact q1); have q5 : w3.cell? ⟨b2, o2 + k, none⟩ = some (V2 k) := (by rw [grown_cell HG3.out (a := ⟨b2, o2 + k, none⟩) y2 (by simp)]; exact q2); have F3 := HF.out.kept (grown_trans0 HG2.out HG3.out) (by simp); obtain ⟨f0, v0, k0⟩ := F3.2 (k * 4) (by omega); obtain ⟨f1, v1, k1⟩ := F3.2 (k * 4 + 1) (by omega); obtain ⟨f2, v2, k2⟩ := F3.2 (k * 4 + 2) (by omega); obtain ⟨f3, v3, k3⟩ := F3.2 (k * 4 + 3) (by omega); clear F3))
      all_goals
        clear f0 f1 f2 f3 k0 k1 k2 k3 q0 q1 q2 q3 q4 q5 g0 g1 g2 z0 z1 z2 y0 y1 y2 n0 n1' n2'
        rename_i hheld
        clear hheld
        generalize hw2 : ((((w3.setCell ⟨w.heap.size, k * 4, none⟩ (.int .u16 (DP k : Int))).setCell ⟨w.heap.size, k * 4 + 1, none⟩ (.slice (some ⟨gs, 0, none⟩) (KN k) (KN k))).setCell ⟨w.heap.size, k * 4 + 2, none⟩ (.slice none 0 0)).setCell ⟨w.heap.size, k * 4 + 3, none⟩ (.int .i64 (tot (LL k) (KN k) : Int))) = w2
        have HG4 := hid (grown_trans0 HG2.out HG3.out)
        have P := put4v w3 w.heap.size (nd * 4) k _ _ _ _ (HF.out.kept HG4.out (by simp)) (by omega) w2 hw2.symm
        clear hw2
        have HG5 := hid (grown_trans (grown_trans0 HG.out HG4.out) P.1 (fun b e => Or.inr (by cases e; exact Nat.le_refl _)))
        have HF5 := hid P.2.1
        have HD5 : Hid (∀ i, i < k + 1 → DenseAt w2 (some w.heap.size) w.heap.size i (KN i) (KX i) (LL i) (YY i)) := fun i hi => by
          by_cases ei : i = k
          · subst ei
            exact ⟨_, gs, P.2.2.1, (HC1.out.kept0 HG3.out).kept P.1⟩
          · obtain ⟨p, b, h1, h2⟩ := HD.out i (by omega)
            exact ⟨p, b, P.2.2.2 i _ _ _ _ ei (h1.kept HG4.out hz (by simp)), (h2.kept0 HG4.out).kept P.1⟩
        clear P
        go_wp2
        go_roundw
        case rel => exact ⟨k + 1, by omega, by go_num, HG5.out, HF5.out, HD5.out⟩
        case measure => simp [intOf]; omega
    · have e0 : k = nd := by omega
      have HD0 : Hid (∀ i, i < nd → DenseAt wr (some w.heap.size) w.heap.size i (KN i) (KX i) (LL i) (YY i)) := by rw [← e0]; exact HD.out
      clear e0 HD
      have hz : w.heap.size < wr.heap.size := HF.out.1
      go_wp2_with fail
      refine (newList_calls _ _ _ _ _ _ _ _ _ _ _ _).mono ?_
      rintro e w1 ⟨rfl, hw1⟩
      have G1 : wr.grownBy w1 none := by rw [hw1]; exact World.grownBy_alloc _ _ _
      have C : ∀ j, w1.cell? ⟨wr.heap.size, j, none⟩ = (#[Value.string s, .int .i64 n1, .int .i64 n2, .int .u64 n3, .slice (some ⟨w.heap.size, 0, none⟩) nd nd, .slice a3 np c3, .pointer every] : Array Value)[j]? := fun j => by rw [hw1, World.cell?_alloc_new]
      have hz1 : wr.heap.size < w1.heap.size := by rw [hw1]; simp
      have HL1 : Hid (ListAt w1 wr.heap.size nd KN KX LL YY (.slice a3 np c3) every) := ⟨hz1, ⟨w.heap.size, C 4, by omega, fun i hi => ((HD0.out i hi).kept0 G1 hz).any⟩, C 5, C 6⟩
      have HG1 := hid (grown_trans0 HG.out G1)
      clear hw1 G1 C hz1
      go_wp2
      go_ret
      exact ⟨_, rfl, HG1.out, HL1.out⟩
end Go.Proofs.Qxb6614184aMods.L
