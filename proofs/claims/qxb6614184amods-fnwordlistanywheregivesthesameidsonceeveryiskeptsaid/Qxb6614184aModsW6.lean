/- onePlace, anywhere, ZZanywhere. -/
import Derived.Test.Qxb6614184aModsW5
namespace Go.Proofs.Qxb6614184aMods.L
open Go.RowKit

theorem wrap_i64 (n : Int) (h1 : -9223372036854775808 ≤ n) (h2 : n ≤ 9223372036854775807) : IntKind.i64.wrap n = n := by
  rw [IntKind.wrap_i64]
  omega

/-- The list stands at one place alone. -/
def One (nd np : Nat) (PN : Nat → Nat) (PX : Nat → Nat → Nat) : Prop := (nd = 1 ∧ np = 0) ∨ (nd = 0 ∧ np = 1 ∧ PX 0 0 / 2097152 = PX 0 (PN 0 - 1) / 2097152)

theorem place_quiet (x : Nat) (hx : x < 4294967296) (w : World) (n : Nat) :
    Calls Trym.prog 40 #[.int .u32 (x : Int)] (w.drewN n) fun e w'' => e = .returned (.int .i64 ((x / 2097152 : Nat) : Int)) ∧ ∃ m, w'' = w.drewN m :=
  (placeOf_calls x hx _).mono fun _ _ ⟨h1, h2⟩ => ⟨h1, n, h2.symm⟩

set_option maxHeartbeats 1000000 in
theorem onePlace_calls (p : Nat) (nd np : Nat) (KN : Nat → Nat) (KX LL : Nat → Nat → Nat) (YY : Nat → Nat → Nat → Nat) (PN : Nat → Nat) (PX : Nat → Nat → Nat) (pv : Value) (every : Option Addr) (w : World)
    (h : ListAt w p nd KN KX LL YY pv every) (hp : Rows2 w none .u32 pv np PN PX) (hn : nd ≤ 1048576) (hne : ∀ i, i < np → 0 < PN i) (hPX : ∀ i j, PX i j < 4294967296) (o : Bool) (ho : o = true ↔ One nd np PN PX) :
    Calls Trym.prog 38 #[.pointer (some ⟨p, 0, none⟩)] w fun e w' => e = .returned (.bool o) ∧ w.grownBy w' none := by
  obtain ⟨hlt, ⟨g, hd, hgl, _⟩, hpc, hev⟩ := h
  obtain ⟨V, ⟨a, c, rfl, hc, hm, hr⟩, hV⟩ := hp
  unfold maxLen at hm
  have HF : Hid (¬ One nd np PN PX → false = o) := fun h => by
    cases e : o
    · rfl
    · exact absurd (ho.1 e) h
  have HT : Hid (One nd np PN PX → true = o) := fun h => (ho.2 h).symm
  have HR := hid hr
  have HV := hid hV
  have HNE := hid hne
  have HPX := hid hPX
  clear ho hr hV hne hPX
  by_cases h1 : nd = 1
  · have b1 : ((nd : Int) == 1) = true := beq_iff_eq.2 (by omega)
    by_cases h2 : np = 0
    · have b2 : ((np : Int) == 0) = true := beq_iff_eq.2 (by omega)
      have H1 := hid h1
      have H2 := hid h2
      clear h1 h2
      go_enter Trym.func38, Trym.ntmps38
      go_wp2
      go_ret
      exact ⟨ret_bool (HT.out (Or.inl ⟨H1.out, H2.out⟩)), grown_refl _ _⟩
    · have b2 : ((np : Int) == 0) = false := beq_eq_false_iff_ne.2 (by omega)
      have H1 := hid h1
      have H2 := hid h2
      clear h1 h2
      go_enter Trym.func38, Trym.ntmps38
      go_wp2
      go_ret
      exact ⟨ret_bool (HF.out (by rintro (⟨_, h⟩ | ⟨h, _⟩); exact H2.out h; have := H1.out; omega)), grown_refl _ _⟩
  · have b1 : ((nd : Int) == 1) = false := beq_eq_false_iff_ne.2 (by omega)
    by_cases h2 : 1 < nd
    · have b2 : decide ((1 : Int) < (nd : Int)) = true := decide_eq_true (by omega)
      have H1 := hid h1
      have H2 := hid h2
      clear h1 h2
      go_enter Trym.func38, Trym.ntmps38
      go_wp2
      go_ret
      exact ⟨ret_bool (HF.out (by rintro (⟨h, _⟩ | ⟨h, _⟩); exact H1.out h; have := H2.out; omega)), grown_refl _ _⟩
    · have b2 : decide ((1 : Int) < (nd : Int)) = false := decide_eq_false (by omega)
      by_cases h3 : np = 1
      · have b3 : ((np : Int) != 1) = false := by rw [bne_eq_false_iff_eq]; omega
        obtain ⟨b, off, rfl, hb, _, hcell⟩ := HR.out (by omega)
        obtain ⟨a', c', e', hc', hm', hr'⟩ := HV.out 0 (by omega)
        have hpos := HNE.out 0 (by omega)
        obtain ⟨b', off', rfl, hb', _, hcell'⟩ := hr' hpos
        have g0 : w.cell? ⟨b, off, none⟩ = some (.slice (some ⟨b', off', none⟩) (PN 0) c') := by have := hcell 0 (by omega); rwa [e'] at this
        have g1 : w.cell? ⟨b', off', none⟩ = some (.int .u32 (PX 0 0 : Int)) := hcell' 0 hpos
        have g2 : w.cell? ⟨b', off' + (PN 0 - 1), none⟩ = some (.int .u32 (PX 0 (PN 0 - 1) : Int)) := hcell' (PN 0 - 1) (by omega)
        have i1 : (0 : Int) < (np : Int) := by omega
        have i2 : (0 : Int) < (PN 0 : Int) := by omega
        have H1 := hid h1
        have H2 := hid h2
        have H3 := hid h3
        unfold maxLen at hm'
        have hw : IntKind.i64.wrap ((PN 0 : Int) - 1) = ((PN 0 - 1 : Nat) : Int) := by rw [wrap_i64 _ (by omega) (by omega)]; omega
        have i3 : ((PN 0 - 1 : Nat) : Int) < (PN 0 : Int) := by omega
        clear h1 h2 h3 hcell hcell' e'
        go_enter Trym.func38, Trym.ntmps38
        go_wp2
        go_quiet ((first | (go_at_call_of 40 (PX 0 0); exact place_quiet (PX 0 0) (HPX.out _ _) _ _) | (go_at_call 40; exact place_quiet (PX 0 (PN 0 - 1)) (HPX.out _ _) _ _)))
        go_wp2
        go_ret
        refine ⟨ret_bool ?_, grown_drewN (grown_refl _ _) _⟩
        by_cases hq : PX 0 0 / 2097152 = PX 0 (PN 0 - 1) / 2097152
        · rw [← HT.out (Or.inr ⟨by have := H1.out; have := H2.out; omega, H3.out, hq⟩), beq_iff_eq]
          omega
        · rw [← HF.out (by rintro (⟨h, _⟩ | ⟨_, _, h⟩); exact H1.out h; exact hq h), beq_eq_false_iff_ne]
          omega
      · have b3 : ((np : Int) != 1) = true := by rw [bne_iff_ne]; omega
        have H1 := hid h1
        have H2 := hid h2
        have H3 := hid h3
        clear h1 h2 h3
        go_enter Trym.func38, Trym.ntmps38
        go_wp2
        go_ret
        exact ⟨ret_bool (HF.out (by rintro (⟨h, _⟩ | ⟨_, h, _⟩); exact H1.out h; exact H3.out h)), grown_refl _ _⟩

theorem ListAt.kept0 {w w1 : World} {p nd : Nat} {KN : Nat → Nat} {KX LL : Nat → Nat → Nat} {YY : Nat → Nat → Nat → Nat} {pv : Value} {every : Option Addr} (h : ListAt w p nd KN KX LL YY pv every) (hg : w.grownBy w1 none) : ListAt w1 p nd KN KX LL YY pv every := by
  obtain ⟨hlt, ⟨g, hd, hgl, hD⟩, hpc, hev⟩ := h
  exact ⟨Nat.lt_of_lt_of_le hlt hg.size, ⟨g, by rw [grown_cell hg (a := ⟨p, 4, none⟩) hlt (by simp)]; exact hd, Nat.lt_of_lt_of_le hgl hg.size, fun i hi => (hD i hi).kept0 hg hgl⟩, by rw [grown_cell hg (a := ⟨p, 5, none⟩) hlt (by simp)]; exact hpc, by rw [grown_cell hg (a := ⟨p, 6, none⟩) hlt (by simp)]; exact hev⟩

theorem free3 (w : World) (v0 v1 v2 : Value) (e : TypeId) : Free (w.alloc (.cells #[v0, v1, v2] e)) w.heap.size 3 :=
  ⟨by simp, fun j hj => ⟨new_frozen w _ j e, by rw [World.cell?_alloc_new]; match j, hj with | 0, _ => exact ⟨_, rfl⟩ | 1, _ => exact ⟨_, rfl⟩ | 2, _ => exact ⟨_, rfl⟩⟩⟩

/-- Nothing is kept whole. -/
theorem any_no (p : Nat) (nd np : Nat) (KN : Nat → Nat) (KX LL : Nat → Nat → Nat) (YY : Nat → Nat → Nat → Nat) (PN : Nat → Nat) (PX : Nat → Nat → Nat) (pv : Value) (w : World)
    (h : ListAt w p nd KN KX LL YY pv none) (hp : Rows2 w none .u32 pv np PN PX) (hn : nd ≤ 1048576) (hne : ∀ i, i < np → 0 < PN i) (hPX : ∀ i j, PX i j < 4294967296) (ho : ¬ One nd np PN PX) :
    Calls Trym.prog 31 #[.pointer (some ⟨p, 0, none⟩)] w fun e w' => e = .returned (.tuple #[.agg #[.slice none 0 0, .slice none 0 0, .int .i64 0], .bool false]) ∧ w.grownBy w' none := by
  have HL := hid h
  have HP := hid hp
  have HNE := hid hne
  have HPX := hid hPX
  have HO := hid ho
  obtain ⟨hlt, ⟨g, hd, hgl, _⟩, hpc, hev⟩ := h
  clear hp hne hPX ho
  go_enter Trym.func31, Trym.ntmps31
  go_wp2_with fail
  refine (onePlace_calls p nd np KN KX LL YY PN PX pv none _ (HL.out.kept0 (World.grownBy_alloc _ _ _)) (HP.out.kept0 (World.grownBy_alloc _ _ _)) hn HNE.out HPX.out false ⟨fun h => by simp at h, fun h => absurd h HO.out⟩).mono ?_
  rintro e w1 ⟨rfl, hg1⟩
  have F := (free3 w (.slice none 0 0) (.slice none 0 0) (.int .i64 0) 39).kept hg1 (by simp)
  obtain ⟨f0, v0, k0⟩ := F.2 0 (by omega)
  obtain ⟨f1, v1, k1⟩ := F.2 1 (by omega)
  obtain ⟨f2, v2, k2⟩ := F.2 2 (by omega)
  have hz : w.heap.size < w1.heap.size := F.1
  have HG := hid (grown_trans0 (World.grownBy_alloc w _ none) hg1)
  clear F hg1
  go_wp2
  exact bodyPost_ret (v := .tuple #[.agg #[.slice none 0 0, .slice none 0 0, .int .i64 0], .bool false]) (by simp [results, Trym.results31, go_sem, k0, k1, k2]) rfl
    ⟨rfl, grown_set (grown_set (grown_set HG.out _ _ (Or.inr (Nat.le_refl _))) _ _ (Or.inr (Nat.le_refl _))) _ _ (Or.inr (Nat.le_refl _))⟩

/-- The set of all is kept. -/
theorem any_every (p : Nat) (nd : Nat) (KN : Nat → Nat) (KX LL : Nat → Nat → Nat) (YY : Nat → Nat → Nat → Nat) (pv : Value) (q : Nat) (a a' : Option Addr) (m c m' c' : Nat) (n : Int) (w : World)
    (h : ListAt w p nd KN KX LL YY pv (some ⟨q, 0, none⟩)) (hq : q < w.heap.size) (h0 : w.cell? ⟨q, 0, none⟩ = some (.slice a m c)) (h1 : w.cell? ⟨q, 1, none⟩ = some (.slice a' m' c')) (h2 : w.cell? ⟨q, 2, none⟩ = some (.int .i64 n)) :
    Calls Trym.prog 31 #[.pointer (some ⟨p, 0, none⟩)] w fun e w' => e = .returned (.tuple #[.agg #[.slice a m c, .slice a' m' c', .int .i64 n], .bool true]) ∧ w.grownBy w' none := by
  obtain ⟨hlt, ⟨g, hd, hgl, _⟩, hpc, hev⟩ := h
  go_enter Trym.func31, Trym.ntmps31
  go_wp2
  exact bodyPost_ret (v := .tuple #[.agg #[.slice a m c, .slice a' m' c', .int .i64 n], .bool true]) (by simp [results, Trym.results31, go_sem]) rfl ⟨rfl, World.grownBy_alloc _ _ _⟩

/-- One dense place, no piece. -/
theorem any_dense (p g b m : Nat) (pp N : Int) (KN : Nat → Nat) (KX LL : Nat → Nat → Nat) (YY : Nat → Nat → Nat → Nat) (PN : Nat → Nat) (PX : Nat → Nat → Nat) (pv : Value) (w : World)
    (h : ListAt w p 1 KN KX LL YY pv none) (hp : Rows2 w none .u32 pv 0 PN PX) (hPX : ∀ i j, PX i j < 4294967296) (hd : w.cell? ⟨p, 4, none⟩ = some (.slice (some ⟨g, 0, none⟩) 1 1)) (hgl : g < w.heap.size)
    (hC : C4 w g 0 (.int .u16 pp) (.slice (some ⟨b, 0, none⟩) m m) (.slice none 0 0) (.int .i64 N)) :
    Calls Trym.prog 31 #[.pointer (some ⟨p, 0, none⟩)] w fun e w' => e = .returned (.tuple #[.agg #[.slice (some ⟨b, 0, none⟩) m m, .slice none 0 0, .int .i64 N], .bool true]) ∧ w.grownBy w' none := by
  have HL := hid h
  have HP := hid hp
  have HPX := hid hPX
  have HC0 := hid hC
  have HDD := hid hd
  obtain ⟨hlt, _, hpc, hev⟩ := h
  clear hp hd hPX hC
  go_enter Trym.func31, Trym.ntmps31
  go_wp2_with fail
  refine (onePlace_calls p 1 0 KN KX LL YY PN PX pv none _ (HL.out.kept0 (World.grownBy_alloc _ _ _)) (HP.out.kept0 (World.grownBy_alloc _ _ _)) (by omega) (fun i hi => absurd hi (by omega)) HPX.out true ⟨fun _ => Or.inl ⟨rfl, rfl⟩, fun _ => rfl⟩).mono ?_
  rintro e w1 ⟨rfl, hg1⟩
  have F := (free3 w (.slice none 0 0) (.slice none 0 0) (.int .i64 0) 39).kept hg1 (by simp)
  obtain ⟨f0, v0, k0⟩ := F.2 0 (by omega)
  obtain ⟨f1, v1, k1⟩ := F.2 1 (by omega)
  obtain ⟨f2, v2, k2⟩ := F.2 2 (by omega)
  have hz : w.heap.size < w1.heap.size := F.1
  have HG := hid (grown_trans0 (World.grownBy_alloc w _ none) hg1)
  have hC := HC0.out.kept HG.out hgl (by simp)
  have d0 : w1.cell? ⟨p, 4, none⟩ = some (.slice (some ⟨g, 0, none⟩) 1 1) := by rw [grown_cell HG.out (a := ⟨p, 4, none⟩) hlt (by simp)]; exact HDD.out
  have d1 : w1.cell? ⟨g, 1, none⟩ = some (.slice (some ⟨b, 0, none⟩) m m) := hC.c1
  have d2 : w1.cell? ⟨g, 2, none⟩ = some (.slice none 0 0) := hC.c2
  have d3 : w1.cell? ⟨g, 3, none⟩ = some (.int .i64 N) := hC.c3
  clear F hg1 hC
  go_wp2
  exact bodyPost_ret (v := .tuple #[.agg #[.slice (some ⟨b, 0, none⟩) m m, .slice none 0 0, .int .i64 N], .bool true]) (by simp [results, Trym.results31, go_sem, k0, k1, k2]) rfl
    ⟨rfl, grown_set (grown_set (grown_set HG.out _ _ (Or.inr (Nat.le_refl _))) _ _ (Or.inr (Nat.le_refl _))) _ _ (Or.inr (Nat.le_refl _))⟩

/-- One place, in one piece. -/
theorem any_piece (p b off : Nat) (a' : Option Addr) (c c' : Nat) (KN : Nat → Nat) (KX LL : Nat → Nat → Nat) (YY : Nat → Nat → Nat → Nat) (PN : Nat → Nat) (PX : Nat → Nat → Nat) (w : World)
    (h : ListAt w p 0 KN KX LL YY (.slice (some ⟨b, off, none⟩) 1 c) none) (hp : Rows2 w none .u32 (.slice (some ⟨b, off, none⟩) 1 c) 1 PN PX) (hne : 0 < PN 0) (hPX : ∀ i j, PX i j < 4294967296) (he : PX 0 0 / 2097152 = PX 0 (PN 0 - 1) / 2097152)
    (hb : b < w.heap.size) (hc : w.cell? ⟨b, off, none⟩ = some (.slice a' (PN 0) c')) :
    Calls Trym.prog 31 #[.pointer (some ⟨p, 0, none⟩)] w fun e w' => e = .returned (.tuple #[.agg #[.slice none 0 0, .slice a' (PN 0) c', .int .i64 (PN 0 : Int)], .bool true]) ∧ w.grownBy w' none := by
  have HL := hid h
  have HP := hid hp
  have HPX := hid hPX
  have HE := hid he
  obtain ⟨hlt, ⟨g, hd, hgl, _⟩, hpc, hev⟩ := h
  have HC := hid hc
  have HDD := hid hd
  have HPC := hid hpc
  clear hPX he hd hpc hc
  go_enter Trym.func31, Trym.ntmps31
  go_wp2_with fail
  refine (onePlace_calls p 0 1 KN KX LL YY PN PX _ none _ (HL.out.kept0 (World.grownBy_alloc _ _ _)) (HP.out.kept0 (World.grownBy_alloc _ _ _)) (by omega) (fun i hi => by rw [show i = 0 from by omega]; exact hne) HPX.out true ⟨fun _ => Or.inr ⟨rfl, rfl, HE.out⟩, fun _ => rfl⟩).mono ?_
  rintro e w1 ⟨rfl, hg1⟩
  have F := (free3 w (.slice none 0 0) (.slice none 0 0) (.int .i64 0) 39).kept hg1 (by simp)
  obtain ⟨f0, v0, k0⟩ := F.2 0 (by omega)
  obtain ⟨f1, v1, k1⟩ := F.2 1 (by omega)
  obtain ⟨f2, v2, k2⟩ := F.2 2 (by omega)
  have hz : w.heap.size < w1.heap.size := F.1
  have HG := hid (grown_trans0 (World.grownBy_alloc w _ none) hg1)
  have d0 : w1.cell? ⟨p, 4, none⟩ = some (.slice (some ⟨g, 0, none⟩) 0 0) := by rw [grown_cell HG.out (a := ⟨p, 4, none⟩) hlt (by simp)]; exact HDD.out
  have d1 : w1.cell? ⟨p, 5, none⟩ = some (.slice (some ⟨b, off, none⟩) 1 c) := by rw [grown_cell HG.out (a := ⟨p, 5, none⟩) hlt (by simp)]; exact HPC.out
  have d2 : w1.cell? ⟨b, off, none⟩ = some (.slice a' (PN 0) c') := by rw [grown_cell HG.out (a := ⟨b, off, none⟩) hb (by simp)]; exact HC.out
  clear F hg1
  go_wp2
  go_region
  all_goals
    go_wp2
    have HW := hid (grown_set (grown_set (grown_set (grown_drew HG.out) ⟨w.heap.size, 0, none⟩ (.slice none 0 0) (Or.inr (Nat.le_refl _))) ⟨w.heap.size, 1, none⟩ (.slice a' (PN 0) c') (Or.inr (Nat.le_refl _))) ⟨w.heap.size, 2, none⟩ (.int .i64 (PN 0 : Int)) (Or.inr (Nat.le_refl _)))
    exact bodyPost_ret (v := .tuple #[.agg #[.slice none 0 0, .slice a' (PN 0) c', .int .i64 (PN 0 : Int)], .bool true]) (by simp [results, Trym.results31, go_sem, k0, k1, k2]) rfl
      ⟨rfl, HW.out⟩

/-- ZZanywhere hands on what anywhere gives. -/
theorem zzAny_calls (p : Nat) (a a' : Option Addr) (m c m' c' : Nat) (n : Int) (o : Bool) (w : World)
    (h : ∀ w0, w.grownBy w0 none → Calls Trym.prog 31 #[.pointer (some ⟨p, 0, none⟩)] w0 fun e w' => e = .returned (.tuple #[.agg #[.slice a m c, .slice a' m' c', .int .i64 n], .bool o]) ∧ w0.grownBy w' none) :
    Calls Trym.prog 16 #[.pointer (some ⟨p, 0, none⟩)] w fun e w' => e = .returned (.tuple #[.agg #[.slice a m c, .slice a' m' c', .int .i64 n], .bool o]) ∧ w.grownBy w' none := by
  have H := hid h
  clear h
  go_enter Trym.func16, Trym.ntmps16
  go_wp2_with fail
  refine (H.out _ (World.grownBy_alloc _ _ _)).mono ?_
  rintro e w1 ⟨rfl, hg1⟩
  have F := (free3 w (.slice none 0 0) (.slice none 0 0) (.int .i64 0) 39).kept hg1 (by simp)
  obtain ⟨f0, v0, k0⟩ := F.2 0 (by omega)
  obtain ⟨f1, v1, k1⟩ := F.2 1 (by omega)
  obtain ⟨f2, v2, k2⟩ := F.2 2 (by omega)
  have hz : w.heap.size < w1.heap.size := F.1
  have HG := hid (grown_trans0 (World.grownBy_alloc w _ none) hg1)
  clear F hg1
  go_wp2
  exact bodyPost_ret (v := .tuple #[.agg #[.slice a m c, .slice a' m' c', .int .i64 n], .bool o]) (by simp [results, Trym.results16, go_sem, k0, k1, k2]) rfl
    ⟨rfl, grown_set (grown_set (grown_set HG.out _ _ (Or.inr (Nat.le_refl _))) _ _ (Or.inr (Nat.le_refl _))) _ _ (Or.inr (Nat.le_refl _))⟩
end Go.Proofs.Qxb6614184aMods.L
