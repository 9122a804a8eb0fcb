/- zzSetHolds. -/
import Derived.Test.Qxb6614184aModsW8
namespace Go.Proofs.Qxb6614184aMods.L
open Go.RowKit

theorem cid_or' (k y : Nat) (hk : k < 32) (hy : y < 65536) : bits BinOp.or IntKind.u32 ((k : Int) * 65536) (y : Int) = (cid k y : Int) := by
  have h := cid_or k y hk hy
  rw [IntKind.wrap_u32', IntKind.wrap_u32', show ((k : Int) * 65536) % 4294967296 = (k : Int) * 65536 from by omega, show (y : Int) % 4294967296 = (y : Int) from by omega] at h
  exact h

/-- A row that rises from each place to the next rises throughout. -/
theorem rises {f : Nat → Nat} {n : Nat} (h : ∀ i, i + 1 < n → f i < f (i + 1)) : ∀ j, j < n → ∀ i, i < j → f i < f j
  | 0, _, i, hi => absurd hi (by omega)
  | j + 1, hj, i, hi => by
    have h1 := h j hj
    by_cases e : i = j
    · subst e; exact h1
    · exact Nat.lt_trans (rises h j (by omega) i (by omega)) h1

theorem cid_inj {k y k' y' : Nat} (hy : y < 65536) (hy' : y' < 65536) (h : cid k y = cid k' y') : k = k' ∧ y = y' := by
  unfold cid at h; omega

/-- The next id is none of those before. -/
theorem COK.fresh {n : Nat} {kx L : Nat → Nat} {Y : Nat → Nat → Nat} (h : COK n kx L Y) (hY : ∀ i j, Y i j < 65536) {k j : Nat} (hk : k < n) (hj : j < L k) :
    ¬ (CH k kx L Y (cid (kx k) (Y k j)) ∨ CI (kx k) j (Y k) (cid (kx k) (Y k j))) := by
  rintro (⟨i, hi, t, ht, e⟩ | ⟨t, ht, e⟩)
  · have h1 := cid_inj (hY _ _) (hY _ _) e
    have h2 := rises h.inc k hk i hi
    omega
  · have h1 := cid_inj (hY _ _) (hY _ _) e
    have h2 := rises (h.linc k hk) j hj t ht
    omega

theorem box3 (w : World) (v0 v1 v2 : Value) (e : TypeId) (wr : World) (hg : (w.alloc (.cells #[v0, v1, v2] e)).grownBy wr none) :
    wr.cell? ⟨w.heap.size, 0, none⟩ = some v0 ∧ wr.cell? ⟨w.heap.size, 1, none⟩ = some v1 ∧ wr.cell? ⟨w.heap.size, 2, none⟩ = some v2 := by
  refine ⟨?_, ?_, ?_⟩
  · rw [grown_cell hg (a := ⟨w.heap.size, 0, none⟩) (by simp) (by simp), World.cell?_alloc_new]; rfl
  · rw [grown_cell hg (a := ⟨w.heap.size, 1, none⟩) (by simp) (by simp), World.cell?_alloc_new]; rfl
  · rw [grown_cell hg (a := ⟨w.heap.size, 2, none⟩) (by simp) (by simp), World.cell?_alloc_new]; rfl

set_option maxRecDepth 20000 in
set_option maxHeartbeats 4000000 in
theorem setHolds_calls (ca fa : Option Addr) (n cc m fc : Nat) (kx L F : Nat → Nat) (Y : Nat → Nat → Nat) (bw : Nat) (W : Nat → Prop) (w : World)
    (hch : 0 < n → ∃ g, ca = some ⟨g, 0, none⟩ ∧ Chunks w none g n kx L Y) (hfl : Row w none (.slice fa m fc) m (U .u32 F))
    (hok : COK n kx L Y) (hY : ∀ i j, Y i j < 65536) (hL : ∀ i, i < n → L i < 4294967296) (hF : ∀ j, F j < 4294967296)
    (hd : ∀ j j', j < j' → j' < m → pid (F j) ≠ pid (F j')) (hnm : n = 0 ∨ m = 0) (hT : tot L n + m ≤ 1099511627776) (hn : n ≤ 1048576)
    (hW : Bits w bw W) (hWe : ∀ x, W x ↔ (CH n kx L Y x ∨ UI m F x)) :
    Calls Trym.prog 19 #[.agg #[.slice ca n cc, .slice fa m fc, .int .i64 ((tot L n + m : Nat) : Int)], .slice (some ⟨bw, 0, none⟩) 32768 32768] w fun e w' => e = .returned (.bool true) ∧ w.grownBy w' none := by
  obtain ⟨tn0, htn0⟩ : ∃ x : Nat, x = tot L n + m := ⟨_, rfl⟩
  rw [← htn0]
  have HTN := hid htn0
  have htn1 : tn0 ≤ 1099511627776 := by omega
  have HCH := hid hch
  have HFL := hid hfl
  have HOK := hid hok
  have HY := hid hY
  have HL := hid hL
  have HF := hid hF
  have HD := hid hd
  have HNM := hid hnm
  have HW := hid hW
  have HWE := hid hWe
  clear hch hok hY hL hF hd hnm hT hW hWe htn0
  obtain ⟨a2, c2, e2, hc2, hm2, hr2⟩ := hfl
  have e3 : fa = a2 := by simp at e2; exact e2.1
  subst e3
  have HR2 := hid hr2
  have hm : m ≤ 9223372036854775807 := by unfold maxLen at hm2; omega
  clear e2 hc2 hm2 hr2
  have W0s : (w.alloc (.cells #[.slice ca n cc, .slice fa m fc, .int .i64 (tn0 : Int)] 39)).heap.size = w.heap.size + 1 := by simp
  obtain ⟨w1, hmk, hB1, hg1⟩ := make_bits (w.alloc (.cells #[.slice ca n cc, .slice fa m fc, .int .i64 (tn0 : Int)] 39))
  rw [W0s] at hB1 hmk
  have HB1 := hid hB1
  have HG1 := hid hg1
  clear hB1 hg1 W0s
  obtain ⟨x0, x1, x2⟩ := box3 w _ _ _ 39 w1 HG1.out
  go_enter Trym.func19, Trym.ntmps19
  go_wp2_with fail
  refine (chunkCount_calls _ _ _ _ _ _).mono ?_
  rintro e w2 ⟨rfl, hg2⟩
  have HG2 := hid (grown_trans0 HG1.out hg2)
  have HB2 := hid (HB1.out.kept hg2 (by simp))
  clear hg2 hmk HG1 HB1 x0 x1 x2
  go_wp2_with fail
  go_loopw [6, 8] (fun c i wr => ∃ k : Nat, k ≤ n ∧ c = .int .i64 (tot L k : Int) ∧ i = .int .i64 k ∧ (w.alloc (.cells #[.slice ca n cc, .slice fa m fc, .int .i64 (tn0 : Int)] 39)).grownBy wr none ∧ Bits wr (w.heap.size + 1) (CH k kx L Y)) (fun _ i _ => n - (intOf i).toNat)
  case atStart => exact ⟨0, by omega, rfl, rfl, HG2.out, HB2.out.congr fun x => ⟨fun h => absurd h (by simp), fun ⟨i, hi, _⟩ => absurd hi (by omega)⟩⟩
  case round =>
    obtain ⟨k, hk, rfl, rfl, hg0, hB0⟩ := hrel
    clear HG2 HB2
    have HG := hid hg0
    have HB := hid hB0
    have HWG := hid (grown_trans0 (World.grownBy_alloc w _ none) hg0)
    clear hg0 hB0
    by_cases hlt : k < n
    · obtain ⟨g, rfl, hC0⟩ := HCH.out (by omega)
      obtain ⟨hgz0, _, V, hV⟩ := hC0
      obtain ⟨hA0, a3, c3, e3, hc3, hm3, hr3⟩ := hV k hlt
      have hA := hA0.kept HWG.out hgz0 (by simp)
      have hgz := Nat.lt_of_lt_of_le hgz0 HWG.out.size
      have q0 := hA.c0
      have q1 := hA.c1
      have q2 := hA.c2
      have q3 := hA.c3
      rw [e3] at q2
      have HR3 := hid hr3
      unfold maxLen at hm3
      obtain ⟨x0, x1, x2⟩ := box3 w _ _ _ 39 wr HG.out
      have hkx := HOK.out.key k hlt
      have hLk := HL.out k hlt
      have hwL : IntKind.u32.wrap (L k : Int) = (L k : Int) := by rw [IntKind.wrap_u32']; omega
      have hbn : ((L k : Int) != (L k : Int)) = false := by simp
      have htk : tot L k + L k ≤ 1099511627776 := by
        have h1 := tot_le L (show k + 1 ≤ n by omega)
        have h2 : tot L (k + 1) = tot L k + L k := rfl
        have := HTN.out
        omega
      have bkx : decide ((32 : Int) ≤ (kx k : Int)) = false := decide_eq_false (by omega)
      clear hr3 hV hA hA0 e3 hgz0
      go_wp2_with fail
      refine (chunk0_calls g k n cc hlt (by unfold maxLen; omega) _ _ _ _ _ _ _ _ _ _ hgz q0 q1 q2 q3).mono ?_
      rintro e w3 ⟨rfl, hg3⟩
      have HG3 := hid (grown_trans0 HG.out hg3)
      have HB3 := hid (HB.out.kept hg3 (by simp))
      clear hg3 q0 q1 q2 q3 x0 x1 x2 hgz
      go_wp2
      go_loopw [6, 13, 14] (fun c i _ wr => ∃ j : Nat, j ≤ L k ∧ c = .int .i64 ((tot L k + j : Nat) : Int) ∧ i = .int .i64 j ∧ (w.alloc (.cells #[.slice (some ⟨g, 0, none⟩) n cc, .slice fa m fc, .int .i64 (tn0 : Int)] 39)).grownBy wr none ∧ Bits wr (w.heap.size + 1) (fun x => CH k kx L Y x ∨ CI (kx k) j (Y k) x)) (fun _ i _ _ => L k - (intOf i).toNat)
      case atStart => exact ⟨0, by omega, rfl, rfl, HG3.out, HB3.out.congr fun x => iff_or_left (fun ⟨i, hi, _⟩ => absurd hi (by omega))⟩
      case round =>
        obtain ⟨j, hj, rfl, rfl, hg0, hB0⟩ := hrel
        clear HG3 HB3 HG HB HWG
        have HG := hid hg0
        have HB := hid hB0
        have HWG := hid (grown_trans0 (World.grownBy_alloc w _ none) hg0)
        clear hg0 hB0
        by_cases hjl : j < L k
        · obtain ⟨b3, o3, rfl, hb3, _, hcell3⟩ := HR3.out (by omega)
          have g3 : wr.cell? ⟨b3, o3 + j, none⟩ = some (.int .u16 (Y k j : Int)) := by rw [grown_cell HWG.out (a := ⟨b3, o3 + j, none⟩) hb3 (by simp)]; exact hcell3 j hjl
          have ec := cid_or' (kx k) (Y k j) hkx (HY.out k j)
          have hyk := HY.out k j
          have HFR := hid (HOK.out.fresh HY.out hlt hjl)
          clear hcell3
          go_wp2_with fail
          refine (has_calls (w.heap.size + 1) (cid (kx k) (Y k j)) (cid_lt hkx (HY.out k j)) _ _ HB.out).mono ?_
          rintro e w4 ⟨o, rfl, ho, hw4⟩
          have ho' : o = false := by
            cases e : o
            · rfl
            · exact absurd (ho.1 e) HFR.out
          subst ho'
          subst hw4
          clear ho
          go_wp2_with fail
          refine (mark_calls (w.heap.size + 1) (cid (kx k) (Y k j)) (cid_lt hkx (HY.out k j)) _ _ HB.out).mono ?_
          rintro e w5 ⟨rfl, hB5, hg5⟩
          have HG5 := hid (grown_trans HG.out hg5 (fun b e => Or.inr (by cases e; simp)))
          have HB5 := hid hB5
          clear hB5 hg5
          go_wp2
          go_roundw
          case rel => exact ⟨j + 1, by omega, by go_num, by go_num, HG5.out, HB5.out.congr fun x => by unfold mark; rw [CI_step]; exact or_assoc⟩
          case measure => simp [intOf]; omega
        · have e0 : j = L k := by omega
          have HB0 := hid (HB.out.congr (T := CH (k + 1) kx L Y) fun x => by rw [CH_step, e0])
          have et : Hid (tot L k + j = tot L (k + 1)) := by show tot L k + j = tot L k + L k; omega
          clear e0
          go_wp2
          go_roundw
          case rel => exact ⟨k + 1, by omega, by rw [← et.out], by go_num, HG.out, HB0.out⟩
          case measure => simp [intOf]; omega
    · have e0 : k = n := by omega
      have HB0 : Hid (Bits wr (w.heap.size + 1) (CH n kx L Y)) := by rw [← e0]; exact HB.out
      have HTK : Hid (tot L k + m = tn0) := by rw [HTN.out, e0]; rfl
      have htk0 : tot L k + m ≤ 1099511627776 := by have := HTK.out; omega
      clear e0 HB
      obtain ⟨x0, x1, x2⟩ := box3 w _ _ _ 39 wr HG.out
      go_wp2_with fail
      refine (flat_calls _ _ _ _ _ _ _ _).mono ?_
      rintro e w3 ⟨rfl, hg3⟩
      have HG3 := hid (grown_trans0 HG.out hg3)
      have HB3 := hid (HB0.out.kept hg3 (by simp))
      clear hg3 x0 x1 x2 HG HB0 HWG
      go_wp2
      go_loopw [6, 16, 17] (fun c i _ wr => ∃ j : Nat, j ≤ m ∧ c = .int .i64 ((tot L k + j : Nat) : Int) ∧ i = .int .i64 j ∧ (w.alloc (.cells #[.slice ca n cc, .slice fa m fc, .int .i64 (tn0 : Int)] 39)).grownBy wr none ∧ Bits wr (w.heap.size + 1) (fun x => CH n kx L Y x ∨ UI j F x)) (fun _ i _ _ => m - (intOf i).toNat)
      case atStart => exact ⟨0, by omega, rfl, rfl, HG3.out, HB3.out.congr fun x => iff_or_left (fun ⟨i, hi, _⟩ => absurd hi (by omega))⟩
      case round =>
        obtain ⟨j, hj, rfl, rfl, hg0, hB0⟩ := hrel
        clear HG3 HB3
        have HG := hid hg0
        have HB := hid hB0
        have HWG := hid (grown_trans0 (World.grownBy_alloc w _ none) hg0)
        clear hg0 hB0
        by_cases hjl : j < m
        · obtain ⟨b3, o3, rfl, hb3, _, hcell3⟩ := HR2.out (by omega)
          have g3 : wr.cell? ⟨b3, o3 + j, none⟩ = some (.int .u32 (F j : Int)) := by rw [grown_cell HWG.out (a := ⟨b3, o3 + j, none⟩) hb3 (by simp)]; exact hcell3 j hjl
          have ep := and_pid (F j) (HF.out j)
          have HFR : Hid (¬ (CH n kx L Y (pid (F j)) ∨ UI j F (pid (F j)))) := by
            rintro (⟨i, hi, _⟩ | ⟨t, ht, e⟩)
            · have := HNM.out; omega
            · exact HD.out t j ht hjl e.symm
          clear hcell3
          go_wp2_with fail
          refine (has_calls (w.heap.size + 1) (pid (F j)) (pid_lt _) _ _ HB.out).mono ?_
          rintro e w4 ⟨o, rfl, ho, hw4⟩
          have ho' : o = false := by
            cases e : o
            · rfl
            · exact absurd (ho.1 e) HFR.out
          subst ho'
          subst hw4
          clear ho
          go_wp2_with fail
          refine (mark_calls (w.heap.size + 1) (pid (F j)) (pid_lt _) _ _ HB.out).mono ?_
          rintro e w5 ⟨rfl, hB5, hg5⟩
          have HG5 := hid (grown_trans HG.out hg5 (fun b e => Or.inr (by cases e; simp)))
          have HB5 := hid hB5
          clear hB5 hg5
          go_wp2
          go_roundw
          case rel => exact ⟨j + 1, by omega, by go_num, by go_num, HG5.out, HB5.out.congr fun x => by unfold mark; rw [UI_step]; exact or_assoc⟩
          case measure => simp [intOf]; omega
        · have e0 : j = m := by omega
          have HB0 := hid (HB.out.congr (T := W) fun x => by rw [HWE.out, e0])
          have hcb : ((tot L k : Int) + (j : Int) == (tn0 : Int)) = true := beq_iff_eq.2 (by have := HTK.out; omega)
          clear e0
          obtain ⟨x0, x1, x2⟩ := box3 w _ _ _ 39 wr HG.out
          go_wp2_with fail
          refine (len_calls _ _ _ _ _ _ _ _).mono ?_
          rintro e w6 ⟨rfl, hg6⟩
          have HG6 := hid (grown_trans0 HWG.out hg6)
          have HB6 := hid (HB0.out.kept hg6 (by simp))
          have HW6 := hid (HW.out.kept HG6.out (by simp))
          clear hg6 x0 x1 x2
          go_wp2_with fail
          refine (bitsEqual_calls _ _ W _ HB6.out HW6.out).mono ?_
          rintro e w7 ⟨rfl, hg7⟩
          have HG7 := hid (grown_trans0 HG6.out hg7)
          clear hg7
          go_wp2
          go_ret
          exact ⟨rfl, HG7.out⟩
end Go.Proofs.Qxb6614184aMods.L
