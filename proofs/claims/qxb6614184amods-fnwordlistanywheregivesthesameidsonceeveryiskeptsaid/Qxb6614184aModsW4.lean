/- zzBuildSet. -/
import Derived.Test.Qxb6614184aModsW3
namespace Go.Proofs.Qxb6614184aMods.L
open Go.RowKit

theorem chunk0_calls (b i m c : Nat) (hi : i < m) (_hm : m ≤ maxLen) (a' l : Option Addr) (m' c' ll lc : Nat) (n k kn : Int) (w : World) (hb : b < w.heap.size)
    (h0 : w.cell? ⟨b, i * 4, none⟩ = some (.int .u32 k)) (h1 : w.cell? ⟨b, i * 4 + 1, none⟩ = some (.int .u32 kn)) (h2 : w.cell? ⟨b, i * 4 + 2, none⟩ = some (.slice l ll lc)) (h3 : w.cell? ⟨b, i * 4 + 3, none⟩ = some (.pointer none)) :
    Calls Trym.prog 35 #[.agg #[.slice (some ⟨b, 0, none⟩) m c, .slice a' m' c', .int .i64 n], .int .i64 i] w fun e w' => e = .returned (.tuple #[.int .u32 k, .int .u32 kn, .slice l ll lc, .pointer none]) ∧ w.grownBy w' none := by
  unfold maxLen at _hm
  go_enter Trym.func35, Trym.ntmps35
  go_wp2
  go_quiet (fail)
  go_wp2
  exact bodyPost_ret (v := .tuple #[.int .u32 k, .int .u32 kn, .slice l ll lc, .pointer none]) (by simp [results, Trym.results35, go_sem]) rfl ⟨rfl, grown_drewN (World.grownBy_alloc _ _ _) _⟩


/-- The sum of the first n lengths. -/
def tot (L : Nat → Nat) : Nat → Nat
  | 0 => 0
  | n + 1 => tot L n + L n

theorem tot_le (L : Nat → Nat) {k n : Nat} (h : k ≤ n) : tot L k ≤ tot L n := by
  induction n with
  | zero => rw [show k = 0 from by omega]; exact Nat.le_refl _
  | succ n ih =>
    by_cases e : k = n + 1
    · rw [e]; exact Nat.le_refl _
    · have := ih (by omega)
      show _ ≤ tot L n + L n
      omega

/-- Chunk i of the block b. -/
structure ChunkAt (w : World) (b i key cnt : Nat) (v : Value) : Prop where
  c0 : w.cell? ⟨b, i * 4, none⟩ = some (.int .u32 (key : Int))
  c1 : w.cell? ⟨b, i * 4 + 1, none⟩ = some (.int .u32 (cnt : Int))
  c2 : w.cell? ⟨b, i * 4 + 2, none⟩ = some v
  c3 : w.cell? ⟨b, i * 4 + 3, none⟩ = some (.pointer none)

/-- The block b holds n chunks; list i, of length L i, holds Y i. -/
def Chunks (w : World) (r : Option Nat) (b n : Nat) (kx L : Nat → Nat) (Y : Nat → Nat → Nat) : Prop :=
  b < w.heap.size ∧ r ≠ some b ∧ ∃ V : Nat → Value, ∀ i, i < n → ChunkAt w b i (kx i) (L i) (V i) ∧ Row w r (V i) (L i) (U .u16 (Y i))

theorem ChunkAt.kept {w w1 : World} {b i key cnt : Nat} {v : Value} {r : Option Nat} (h : ChunkAt w b i key cnt v) (hg : w.grownBy w1 r) (hb : b < w.heap.size) (hr : r ≠ some b) : ChunkAt w1 b i key cnt v :=
  ⟨by rw [grown_cell hg (a := ⟨b, _, none⟩) hb hr]; exact h.c0, by rw [grown_cell hg (a := ⟨b, _, none⟩) hb hr]; exact h.c1, by rw [grown_cell hg (a := ⟨b, _, none⟩) hb hr]; exact h.c2, by rw [grown_cell hg (a := ⟨b, _, none⟩) hb hr]; exact h.c3⟩

theorem Chunks.kept0 {w w1 : World} {r : Option Nat} {b n : Nat} {kx L : Nat → Nat} {Y : Nat → Nat → Nat} (h : Chunks w r b n kx L Y) (hg : w.grownBy w1 none) : Chunks w1 r b n kx L Y := by
  obtain ⟨hb, hr, V, hV⟩ := h
  exact ⟨Nat.lt_of_lt_of_le hb hg.size, hr, V, fun i hi => ⟨(hV i hi).1.kept hg hb (by simp), (hV i hi).2.kept0 hg⟩⟩

theorem Chunks.kept {w w1 : World} {r : Option Nat} {b n : Nat} {kx L : Nat → Nat} {Y : Nat → Nat → Nat} (h : Chunks w r b n kx L Y) (hg : w.grownBy w1 r) : Chunks w1 r b n kx L Y := by
  obtain ⟨hb, hr, V, hV⟩ := h
  exact ⟨Nat.lt_of_lt_of_le hb hg.size, hr, V, fun i hi => ⟨(hV i hi).1.kept hg hb hr, (hV i hi).2.kept hg⟩⟩

theorem Chunks.any {w : World} {r : Option Nat} {b n : Nat} {kx L : Nat → Nat} {Y : Nat → Nat → Nat} (h : Chunks w r b n kx L Y) : Chunks w none b n kx L Y := by
  obtain ⟨hb, _, V, hV⟩ := h
  exact ⟨hb, by simp, V, fun i hi => ⟨(hV i hi).1, (hV i hi).2.any⟩⟩

theorem info61 : (Trym.prog.info? 61).map (fun i => (i.zero, i.size, i.bytes)) = some (some (.agg #[.int .u32 0, .int .u32 0, .slice none 0 0, .pointer none]), 4, 40) := by kernel_rfl

/-- All m cells of block g are there and may be written. -/
def Free (w : World) (g m : Nat) : Prop := g < w.heap.size ∧ ∀ j, j < m → w.frozen? ⟨g, j, none⟩ = false ∧ ∃ v, w.cell? ⟨g, j, none⟩ = some v

theorem Free.kept {w w1 : World} {g m : Nat} {r : Option Nat} (h : Free w g m) (hg : w.grownBy w1 r) (hr : r ≠ some g) : Free w1 g m :=
  ⟨Nat.lt_of_lt_of_le h.1 hg.size, fun j hj => by
    obtain ⟨hf, v, hc⟩ := h.2 j hj
    exact ⟨by rw [grown_frozen hg (a := ⟨g, j, none⟩) h.1 hr]; exact hf, v, by rw [grown_cell hg (a := ⟨g, j, none⟩) h.1 hr]; exact hc⟩⟩

theorem Free.set {w : World} {g m : Nat} (h : Free w g m) (i : Nat) (u : Value) : Free (w.setCell ⟨g, i, none⟩ u) g m :=
  ⟨by simpa using h.1, fun j hj => by
    obtain ⟨hf, v, hc⟩ := h.2 j hj
    exact ⟨by simpa using hf, cell?_setCell_some hc⟩⟩

theorem size_made (z : Array Value) (n j : Nat) (h : j < n) : ∃ v, (madeCells z n)[j]? = some v := by
  have : j < (madeCells z n).size := by rw [size_madeCells]; exact h
  exact ⟨_, Array.getElem?_eq_getElem this⟩

theorem free_new (w : World) (z : Array Value) (n : Nat) (e : TypeId) : Free (w.alloc (.cells (madeCells z n) e)) w.heap.size n :=
  ⟨by simp, fun j hj => by
    obtain ⟨v, hv⟩ := size_made z n j hj
    exact ⟨new_frozen w _ j e, v, by rw [World.cell?_alloc_new]; exact hv⟩⟩

theorem make_chunks (w : World) (n : Nat) (hn : n ≤ 1048576) : ∃ w', (Instr.makeSlice 37 (.int .i64 (n : Int)) (.int .i64 (n : Int))).run Trym.prog w = .ok (.slice (some ⟨w.heap.size, 0, none⟩) n n) w' ∧ Free w' w.heap.size (n * 4) ∧ w.grownBy w' none := by
  obtain ⟨i, hi, hzz⟩ := Option.map_eq_some_iff.1 info61
  simp only [Prod.mk.injEq] at hzz
  obtain ⟨hz, hs, hb⟩ := hzz
  have hr := run_make (P := Trym.prog) w 37 61 i _ Trym.underlying37 hi hz .i64 .i64 (n : Int) (n : Int) (by omega) (Int.le_refl _) (by rw [hb]; omega) (by omega)
  simp only [Int.toNat_natCast, hs] at hr
  exact ⟨_, hr, free_new w _ _ _, World.grownBy_alloc _ _ _⟩

theorem cell_set (w : World) (g x : Nat) (u v : Value) (hc : w.cell? ⟨g, x, none⟩ = some v) (y : Nat) : (w.setCell ⟨g, x, none⟩ u).cell? ⟨g, y, none⟩ = if y = x then some u else w.cell? ⟨g, y, none⟩ := by
  by_cases e : y = x
  · subst e
    rw [if_pos rfl]
    exact World.cell?_setCell_same _ _ _ hc
  · rw [if_neg e]
    exact World.cell?_setCell_other _ _ _ _ (fun h => e (congrArg Addr.off h).symm)

/-- One chunk written. -/
theorem put4 (w : World) (g m k key cnt : Nat) (v : Value) (h : Free w g m) (hk : k * 4 + 3 < m) (w2 : World)
    (e : w2 = (((w.setCell ⟨g, k * 4, none⟩ (.int .u32 (key : Int))).setCell ⟨g, k * 4 + 1, none⟩ (.int .u32 (cnt : Int))).setCell ⟨g, k * 4 + 2, none⟩ v).setCell ⟨g, k * 4 + 3, none⟩ (.pointer none)) :
    w.grownBy w2 (some g) ∧ Free w2 g m ∧ ChunkAt w2 g k key cnt v ∧ ∀ i key' cnt' v', i ≠ k → ChunkAt w g i key' cnt' v' → ChunkAt w2 g i key' cnt' v' := by
  obtain ⟨_, v0, c0⟩ := h.2 (k * 4) (by omega)
  have s0 := cell_set w g (k * 4) (.int .u32 (key : Int)) v0 c0
  have F0 := h.set (k * 4) (.int .u32 (key : Int))
  have G0 := grown_setCell w ⟨g, k * 4, none⟩ (.int .u32 (key : Int))
  generalize w.setCell ⟨g, k * 4, none⟩ (.int .u32 (key : Int)) = wa at *
  obtain ⟨_, v1, c1⟩ := F0.2 (k * 4 + 1) (by omega)
  have s1 := cell_set wa g (k * 4 + 1) (.int .u32 (cnt : Int)) v1 c1
  have F1 := F0.set (k * 4 + 1) (.int .u32 (cnt : Int))
  have G1 := grown_set G0 ⟨g, k * 4 + 1, none⟩ (.int .u32 (cnt : Int)) (Or.inl rfl)
  generalize wa.setCell ⟨g, k * 4 + 1, none⟩ (.int .u32 (cnt : Int)) = wb at *
  obtain ⟨_, v2, c2⟩ := F1.2 (k * 4 + 2) (by omega)
  have s2 := cell_set wb g (k * 4 + 2) v v2 c2
  have F2 := F1.set (k * 4 + 2) v
  have G2 := grown_set G1 ⟨g, k * 4 + 2, none⟩ v (Or.inl rfl)
  generalize wb.setCell ⟨g, k * 4 + 2, none⟩ v = wc at *
  obtain ⟨_, v3, c3⟩ := F2.2 (k * 4 + 3) (by omega)
  have s3 := cell_set wc g (k * 4 + 3) (.pointer none) v3 c3
  have F3 := F2.set (k * 4 + 3) (.pointer none)
  have G3 := grown_set G2 ⟨g, k * 4 + 3, none⟩ (.pointer none) (Or.inl rfl)
  generalize wc.setCell ⟨g, k * 4 + 3, none⟩ (.pointer none) = wd at *
  subst e
  have far : ∀ y, y ≠ k * 4 → y ≠ k * 4 + 1 → y ≠ k * 4 + 2 → y ≠ k * 4 + 3 → w2.cell? ⟨g, y, none⟩ = w.cell? ⟨g, y, none⟩ := fun y h0 h1 h2 h3 => by
    rw [s3 y, if_neg h3, s2 y, if_neg h2, s1 y, if_neg h1, s0 y, if_neg h0]
  refine ⟨G3, F3, ⟨?_, ?_, ?_, ?_⟩, fun i key' cnt' v' hi hc => ⟨?_, ?_, ?_, ?_⟩⟩
  · have h1 : ¬ k * 4 = k * 4 + 3 := by omega
    have h2 : ¬ k * 4 = k * 4 + 2 := by omega
    have h3 : ¬ k * 4 = k * 4 + 1 := by omega
    rw [s3, if_neg h1, s2, if_neg h2, s1, if_neg h3, s0, if_pos rfl]
  · have h1 : ¬ k * 4 + 1 = k * 4 + 3 := by omega
    have h2 : ¬ k * 4 + 1 = k * 4 + 2 := by omega
    rw [s3, if_neg h1, s2, if_neg h2, s1, if_pos rfl]
  · have h1 : ¬ k * 4 + 2 = k * 4 + 3 := by omega
    rw [s3, if_neg h1, s2, if_pos rfl]
  · rw [s3, if_pos rfl]
  · rw [far _ (by omega) (by omega) (by omega) (by omega)]; exact hc.c0
  · rw [far _ (by omega) (by omega) (by omega) (by omega)]; exact hc.c1
  · rw [far _ (by omega) (by omega) (by omega) (by omega)]; exact hc.c2
  · rw [far _ (by omega) (by omega) (by omega) (by omega)]; exact hc.c3

set_option maxHeartbeats 2000000 in
theorem buildSet_calls (kv lv : Value) (n : Nat) (kx L : Nat → Nat) (Y : Nat → Nat → Nat) (w : World) (r : Option Nat) (hr : ∀ b, r = some b → b < w.heap.size) (hk : Row w r kv n (U .u32 kx)) (hl : Rows2 w r .u16 lv n L Y)
    (hn : n ≤ 1048576) (hL : ∀ i, i < n → L i < 4294967296) (hT : tot L n ≤ 1099511627776) :
    Calls Trym.prog 13 #[kv, lv] w fun e w' => ∃ g, e = .returned (.agg #[.slice (some ⟨g, 0, none⟩) n n, .slice none 0 0, .int .i64 (tot L n : Int)]) ∧ w.grownBy w' none ∧ Chunks w' r g n kx L Y := by
  obtain ⟨a1, c1, rfl, hc1, hm1, hr1⟩ := hk
  obtain ⟨V, ⟨a2, c2, rfl, hc2, hm2, hr2⟩, hV⟩ := hl
  unfold maxLen at hm1 hm2
  have HR1 := hid hr1
  have HR2 := hid hr2
  have HV := hid hV
  have HL := hid hL
  have HT := hid hT
  have HRR := hid hr
  clear hr1 hr2 hV hL hT hr
  obtain ⟨w1, hmk, hF1, hg1⟩ := make_chunks (w.alloc (.cells #[.slice none 0 0, .slice none 0 0, .int .i64 0] 39)) n hn
  have HF0 := hid ((show Free (w.alloc (.cells #[.slice none 0 0, .slice none 0 0, .int .i64 0] 39)) w.heap.size 3 from ⟨by simp, fun j hj => ⟨new_frozen w _ j 39, by rw [World.cell?_alloc_new]; match j, hj with | 0, _ => exact ⟨_, rfl⟩ | 1, _ => exact ⟨_, rfl⟩ | 2, _ => exact ⟨_, rfl⟩⟩⟩).kept hg1 (by simp))
  have HF1 := hid (by simpa using hF1 : Free w1 (w.heap.size + 1) (n * 4))
  have HG1 := hid (grown_trans0 (World.grownBy_alloc w _ none) hg1)
  clear hF1 hg1
  go_enter Trym.func13, Trym.ntmps13
  go_wp2
  go_loopw [6, 7] (fun t i wr => ∃ k : Nat, k ≤ n ∧ t = .int .i64 (tot L k : Int) ∧ i = .int .i64 k ∧ w.grownBy wr none ∧ Free wr w.heap.size 3 ∧ Free wr (w.heap.size + 1) (n * 4) ∧ ∀ i, i < k → ChunkAt wr (w.heap.size + 1) i (kx i) (L i) (V i)) (fun _ i _ => n - (intOf i).toNat)
  case atStart => exact ⟨0, by omega, rfl, rfl, HG1.out, HF0.out, HF1.out, fun i hi => absurd hi (by omega)⟩
  case round =>
    obtain ⟨k, hk, rfl, rfl, hg0, hF0, hF1, hC⟩ := hrel
    clear HG1 HF0 HF1 hmk
    have HG := hid hg0
    have HF0 := hid hF0
    have HF1 := hid hF1
    have HC := hid hC
    clear hg0 hF0 hF1 hC
    by_cases hlt : k < n
    · obtain ⟨b1, o1, rfl, hb1, _, hcell1⟩ := HR1.out (by omega)
      obtain ⟨b2, o2, rfl, hb2, _, hcell2⟩ := HR2.out (by omega)
      obtain ⟨a3, c3, e3, hc3, hm3, hr3⟩ := HV.out k hlt
      unfold maxLen at hm3
      have g1 : wr.cell? ⟨b1, o1 + k, none⟩ = some (.int .u32 (kx k : Int)) := by rw [grown_cell HG.out (a := ⟨b1, o1 + k, none⟩) hb1 (by simp)]; exact hcell1 k hlt
      have g2 : wr.cell? ⟨b2, o2 + k, none⟩ = some (.slice a3 (L k) c3) := by rw [grown_cell HG.out (a := ⟨b2, o2 + k, none⟩) hb2 (by simp), hcell2 k hlt, e3]
      have E3 := hid e3
      have hLk := HL.out k hlt
      have hwL : IntKind.u32.wrap (L k : Int) = (L k : Int) := by rw [IntKind.wrap_u32']; omega
      have htk : tot L (k + 1) ≤ 1099511627776 := Nat.le_trans (tot_le L (by omega)) HT.out
      have htk2 : tot L k + L k ≤ 1099511627776 := htk
      have hz : wr.heap.size ≥ w.heap.size + 2 := HF1.out.1
      clear hcell1 hcell2 hr3 e3 htk
      go_wp2
      go_region_with (go_at_call 26; refine (newChunk_calls _ _ _ _ _ _).mono ?_; rintro e w1 ⟨rfl, hg1⟩; have HG2 := hid (grown_trans0 (grown_drew (grown_refl wr none)) hg1); clear hg1; have F1 := HF1.out.kept HG2.out (by simp); obtain ⟨f0, v0, k0⟩ := F1.2 (k * 4) (by omega); obtain ⟨f1, v1, k1⟩ := F1.2 (k * 4 + 1) (by omega); obtain ⟨f2, v2, k2⟩ := F1.2 (k * 4 + 2) (by omega); obtain ⟨f3, v3, k3⟩ := F1.2 (k * 4 + 3) (by omega); clear F1)
      all_goals
        clear f0 f1 f2 f3 k0 k1 k2 k3
        generalize hw2 : ((((w1.setCell ⟨w.heap.size + 1, k * 4, none⟩ (.int .u32 (kx k : Int))).setCell ⟨w.heap.size + 1, k * 4 + 1, none⟩ (.int .u32 (L k : Int))).setCell ⟨w.heap.size + 1, k * 4 + 2, none⟩ (.slice a3 (L k) c3)).setCell ⟨w.heap.size + 1, k * 4 + 3, none⟩ (.pointer none)) = w2
        have P := put4 w1 (w.heap.size + 1) (n * 4) k (kx k) (L k) (.slice a3 (L k) c3) (HF1.out.kept HG2.out (by simp)) (by omega) w2 hw2.symm
        clear hw2
        have HG3 := hid (grown_trans (grown_trans0 HG.out HG2.out) P.1 (fun b e => Or.inr (by cases e; omega)))
        have HF3 := hid P.2.1
        have HF4 := hid ((HF0.out.kept HG2.out (by simp)).kept P.1 (by simp))
        have HC3 : Hid (∀ i, i < k + 1 → ChunkAt w2 (w.heap.size + 1) i (kx i) (L i) (V i)) := fun i hi => by
          by_cases ei : i = k
          · subst ei; rw [E3.out]; exact P.2.2.1
          · exact P.2.2.2 i _ _ _ ei ((HC.out i (by omega)).kept HG2.out HF1.out.1 (by simp))
        have g3 : w2.cell? ⟨b2, o2 + k, none⟩ = some (.slice a3 (L k) c3) := by
          rw [grown_cell P.1 (a := ⟨b2, o2 + k, none⟩) (Nat.lt_of_lt_of_le hb2 (grown_trans0 HG.out HG2.out).size) (by simp; omega), grown_cell HG2.out (a := ⟨b2, o2 + k, none⟩) (show b2 < wr.heap.size by omega) (by simp)]
          exact g2
        clear P g1 g2
        go_wp2
        go_roundw
        case rel => exact ⟨k + 1, by omega, by go_num, by go_num, HG3.out, HF4.out, HF3.out, HC3.out⟩
        case measure => simp [intOf]; omega
    · have e0 : k = n := by omega
      have HC0 : Hid (∀ i, i < n → ChunkAt wr (w.heap.size + 1) i (kx i) (L i) (V i)) := by rw [← e0]; exact HC.out
      have et : Hid (tot L k = tot L n) := by rw [e0]; rfl
      clear e0 HC
      go_wp2_with fail
      refine (newSet_calls _ _ _ _ _ _ _ _).mono ?_
      rintro e w1 ⟨rfl, hg1⟩
      have F4 := HF0.out.kept hg1 (by simp)
      obtain ⟨f0, v0, k0⟩ := F4.2 0 (by omega)
      obtain ⟨f1, v1, k1⟩ := F4.2 1 (by omega)
      obtain ⟨f2, v2, k2⟩ := F4.2 2 (by omega)
      have hz : w.heap.size < w1.heap.size := F4.1
      have HG2 := hid (grown_trans0 HG.out hg1)
      have HC2 : Hid (∀ i, i < n → ChunkAt w1 (w.heap.size + 1) i (kx i) (L i) (V i)) := fun i hi => (HC0.out i hi).kept hg1 HF1.out.1 (by simp)
      have hz2 : Hid (w.heap.size + 1 < w1.heap.size) := Nat.lt_of_lt_of_le HF1.out.1 hg1.size
      clear F4 hg1
      go_wp2
      have GW := hid (grown_set (grown_set (grown_setCell w1 ⟨w.heap.size, 0, none⟩ (.slice (some ⟨w.heap.size + 1, 0, none⟩) n n)) ⟨w.heap.size, 1, none⟩ (.slice none 0 0) (Or.inl rfl)) ⟨w.heap.size, 2, none⟩ (.int .i64 (tot L k : Int)) (Or.inl rfl))
      have GN := hid (grown_trans HG2.out GW.out (fun b e => Or.inr (by cases e; exact Nat.le_refl _)))
      exact bodyPost_ret (v := .agg #[.slice (some ⟨w.heap.size + 1, 0, none⟩) n n, .slice none 0 0, .int .i64 (tot L k : Int)]) (by simp [results, Trym.results13, go_sem, k0, k1, k2]) rfl
        ⟨w.heap.size + 1, by rw [et.out], GN.out, Nat.lt_of_lt_of_le hz2.out GW.out.size, (fun e => by have := HRR.out _ e; omega), V, fun i hi => ⟨(HC2.out i hi).kept GW.out hz2.out (by simp), (HV.out i hi).kept0 GN.out⟩⟩
end Go.Proofs.Qxb6614184aMods.L
