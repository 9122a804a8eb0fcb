/- The law, out of its callees' contracts. -/
import Derived.Test.Qxb6614184aModsR
import Derived.Test.Qxb6614184aModsW13
namespace Go.Proofs.Qxb6614184aMods.L
open Go.RowKit

theorem Rows3.len {w : World} {r : Option Nat} {k : IntKind} {v : Value} {n : Nat} {N N' : Nat → Nat} {L : Nat → Nat → Nat} {Y : Nat → Nat → Nat → Nat} (h : Rows3 w r k v n N L Y) (e : ∀ i, i < n → N' i = N i) : Rows3 w r k v n N' L Y := by
  obtain ⟨V, h1, h2⟩ := h
  exact ⟨V, h1, fun i hi => by rw [e i hi]; exact h2 i hi⟩

set_option maxRecDepth 20000 in
set_option maxHeartbeats 8000000 in
theorem law_calls (s : ByteArray) (n1 n2 n3 : Int) (dpv dkv dlv pv : Value) (nd nk nl np : Nat) (DP KN LN PN : Nat → Nat) (KX LL PX : Nat → Nat → Nat) (YY : Nat → Nat → Nat → Nat) (w : World) (hs : s.size ≤ maxLen)
    (hd : Row w none dpv nd (U .u16 DP)) (hk : Rows2 w none .u32 dkv nk KN KX) (hl : Rows3 w none .u16 dlv nl LN LL YY) (hp : Rows2 w none .u32 pv np PN PX)
    (hDP : ∀ i, DP i < 65536) (hY : ∀ i j t, YY i j t < 65536) (hPX : ∀ i j, PX i j < 4294967296) :
    Calls Trym.prog 5 #[.string s, .int .i64 n1, .int .i64 n2, .int .u64 n3, dpv, dkv, dlv, pv] w fun e w' => e = .returned (.bool true) ∧ w.grownBy w' none := by
  have HS := hid hs
  have HD := hid hd
  have HK := hid hk
  have HL := hid hl
  have HP := hid hp
  have HDP := hid hDP
  have HY := hid hY
  have HPX := hid hPX
  obtain ⟨da, dc, e0, hc0, hm0, -⟩ := hd
  subst e0
  have hnd0 : nd ≤ maxLen := by omega
  have HND0 := hid hnd0
  obtain ⟨V1, ⟨a1, c1, e1, -⟩, -⟩ := hk
  subst e1
  obtain ⟨V2, ⟨a2, c2, e2, -⟩, -⟩ := hl
  subst e2
  obtain ⟨V3, hRow3, -⟩ := hp
  have HR3 := hid hRow3
  obtain ⟨a3, c3, e3, -⟩ := hRow3
  subst e3
  clear hs hDP hY hPX hc0 hm0 hnd0
  go_enter Trym.func5, Trym.ntmps5
  go_wp2_with fail
  refine (bytes_calls s n1 n2 n3 da dc _ _ _ nd nk nl np KN LN PN KX LL PX YY w HK.out HL.out HP.out).mono ?_
  rintro e w1 ⟨⟨o, rfl, ho⟩, hw1⟩
  subst hw1
  cases o
  case false =>
    clear ho
    go_wp2
    go_ret
    exact ⟨rfl, grown_refl _ _⟩
  obtain ⟨hnd, hnp⟩ := ho rfl
  clear ho
  go_wp2_with fail
  refine (size_calls s HS.out da dc _ _ _ nd nk nl np KN LN PN KX LL PX YY w HND0.out HK.out HL.out HP.out).mono ?_
  rintro e w1 ⟨⟨o, rfl⟩, hw1⟩
  subst hw1
  cases o
  case false =>
    go_wp2
    go_ret
    exact ⟨rfl, grown_refl _ _⟩
  go_wp2_with fail
  refine (shapeOK_calls _ _ _ _ nd nk nl np DP KN LN PN KX LL PX YY w HD.out HK.out HL.out HP.out HDP.out HPX.out).mono ?_
  rintro e w1 ⟨o, rfl, ho, hg1⟩
  have HG1 := hid hg1
  clear hg1
  cases o
  case false =>
    clear ho
    go_wp2
    go_ret
    exact ⟨rfl, HG1.out⟩
  obtain ⟨enk, enl, hDOK, hPOK⟩ := ho rfl
  subst enk
  subst enl
  have HDK := hid hDOK
  have HPK := hid hPOK
  have HL' := hid (Rows3.len HL.out (fun i hi => hDOK.len i hi))
  clear ho hDOK hPOK
  go_wp2_with fail
  refine (union_calls _ _ _ nl np KN PN KX LL PX YY w1 (HK.out.kept0 HG1.out) (HL'.out.kept0 HG1.out) (HP.out.kept0 HG1.out) (fun i hi j hj => (HDK.out.ok i hi).key j hj) HY.out HPX.out).mono ?_
  rintro e w2 ⟨rfl, hg2, hB2⟩
  have HG2 := hid (grown_trans0 HG1.out hg2)
  have HB2 := hid hB2
  clear hg2 hB2
  generalize w1.heap.size = gu at *
  have HKN : Hid (∀ i, i < nl → KN i ≤ 1048576) := fun i hi => by have := (HDK.out.ok i hi).count; omega
  have HLL : Hid (∀ i, i < nl → ∀ j, j < KN i → LL i j < 4294967296) := fun i hi j hj => by have := (HDK.out.ok i hi).length (HY.out i) hj; omega
  have HTT : Hid (∀ i, i < nl → tot (LL i) (KN i) ≤ 1099511627776) := fun i hi => by have := (HDK.out.ok i hi).total (HY.out i); omega
  go_wp2_with fail
  refine (buildList_calls s n1 n2 n3 _ _ _ _ none nl np DP KN KX LL YY V3 w2 (HD.out.kept0 HG2.out) (HK.out.kept0 HG2.out) (HL'.out.kept0 HG2.out) (HR3.out.kept0 HG2.out) hnd HKN.out HLL.out HTT.out).mono ?_
  rintro e w3 ⟨p1, rfl, hg3, hL3⟩
  have HG3 := hid (grown_trans0 HG2.out hg3)
  have HB3 := hid (HB2.out.kept hg3 (by simp))
  have HL3 := hid hL3
  clear hg3 hL3 HB2
  go_wp2_with fail
  refine (first_calls p1 nl np DP KN LN PN KX LL PX YY _ w3 HL3.out (HP.out.kept0 HG3.out) hnd HDK.out HPK.out HY.out HPX.out).mono ?_
  rintro e w4 ⟨o1, ca, n, cc, fa, m, fc, N, rfl, hg4, hF⟩
  have HG4 := hid (grown_trans0 HG3.out hg4)
  have HB4 := hid (HB3.out.kept hg4 (by simp))
  have HF : Hid (First w4 o1 (One nl np PN PX) ca n cc fa m fc N (fun x => UD nl KN KX LL YY x ∨ UP np PN PX x)) := by
    rcases hF with h | ⟨h1, h2, h3⟩
    · exact Or.inl h
    · exact Or.inr ⟨h1, h2, h3.kept0 hg4⟩
  clear hg4 hF HB3 HL3
  obtain ⟨T, hT⟩ : ∃ T : Nat → Bool, ∀ x, T x = true ↔ (UD nl KN KX LL YY x ∨ UP np PN PX x) := by
    classical
    exact ⟨fun x => decide (UD nl KN KX LL YY x ∨ UP np PN PX x), fun x => by simp⟩
  have HT := hid hT
  clear hT
  go_wp2_with fail
  refine (setFromBits_calls gu _ T HT.out _ (HB4.out.kept (World.grownBy_alloc _ _ none) (by simp))).mono ?_
  rintro e w5 ⟨g, rfl, hg5, hC5⟩
  have HX5 := hid hg5
  have HG5 := hid (grown_trans0 (grown_trans0 HG4.out (World.grownBy_alloc w4 _ none)) hg5)
  have HB5 := hid (HB4.out.kept (grown_trans0 (World.grownBy_alloc w4 _ none) hg5) (by simp))
  have HC5 := hid hC5
  clear hg5 hC5
  go_wp2_with fail
  refine (buildList_calls s n1 n2 n3 _ _ _ _ _ nl np DP KN KX LL YY V3 _ (HD.out.kept0 (grown_alloc HG5.out _)) (HK.out.kept0 (grown_alloc HG5.out _)) (HL'.out.kept0 (grown_alloc HG5.out _)) (HR3.out.kept0 (grown_alloc HG5.out _)) hnd HKN.out HLL.out HTT.out).mono ?_
  rintro e w6 ⟨p2, rfl, hg6, hL6⟩
  have HX6 := hid hg6
  have HG6 := hid (grown_trans0 (grown_alloc HG5.out _) hg6)
  have HB6 := hid (HB5.out.kept (grown_trans0 (World.grownBy_alloc w5 _ none) hg6) (by simp))
  have HL6 := hid hL6
  obtain ⟨q0, q1, q2⟩ := box3 w5 _ _ _ 39 w6 hg6
  have hq5 : w5.heap.size < w6.heap.size := by have := hg6.size; simp at this; omega
  have HQ0 := hid q0
  have HQ1 := hid q1
  have HQ2 := hid q2
  clear hg6 hL6 q0 q1 q2
  go_wp2_with fail
  refine (second_calls p2 nl w5.heap.size KN KX LL YY _ _ _ _ _ _ _ _ w6 HL6.out hq5 HQ0.out HQ1.out HQ2.out).mono ?_
  rintro e w7 ⟨rfl, hg7⟩
  have HX7 := hid (grown_trans0 (grown_trans0 (World.grownBy_alloc w5 _ none) HX6.out) hg7)
  have HG7 := hid (grown_trans0 HG6.out hg7)
  have HB7 := hid (HB6.out.kept hg7 (by simp))
  have HC7 := hid (HC5.out.kept0 HX7.out)
  clear hg7 HB5 HB6 HC5 HL6 HQ0 HQ1 HQ2
  go_wp2_with fail
  refine (holds_ready (ready_bits HT.out (fun x hx => all_lt HDK.out HY.out x hx) (HC7.out.kept0 (World.grownBy_alloc _ _ none))) (HB7.out.kept (World.grownBy_alloc _ _ none) (by simp))).mono ?_
  rintro e w8 ⟨rfl, hg8⟩
  have HG8 := hid (grown_trans0 (grown_alloc HG7.out _) hg8)
  have HB8 := hid (HB7.out.kept (grown_trans0 (World.grownBy_alloc w7 _ none) hg8) (by simp))
  have HX8 := hid (grown_trans0 HX5.out (grown_trans0 HX7.out (grown_trans0 (World.grownBy_alloc w7 _ none) hg8)))
  have htot := HPK.out.total HPX.out hnp
  have hone := one_iff (nd := nl) HPK.out
  have HONE := hid hone
  have HTOT := hid htot
  clear hg8 HB7 HC7 hone htot
  go_wp2_with fail
  refine (places_calls nl np da dc _ PN PX w8 (HP.out.kept0 HG8.out) (by have := HTOT.out; omega) HPX.out).mono ?_
  rintro e w9 ⟨rfl, hg9⟩
  have HG9 := hid (grown_trans0 HG8.out hg9)
  have HB9 := hid (HB8.out.kept hg9 (by simp))
  have HX9 := hid (grown_trans0 HX8.out hg9)
  obtain ⟨x0, x1, x2⟩ := box3 w4 _ _ _ 39 w9 HX9.out
  clear hg9 HB8
  rcases HF.out with ⟨h1, h2, h3, h4, h5, h6, h7, h8, h9⟩ | ⟨h1, h2, h3⟩
  · have bp : ((nl : Int) + (plAll PN PX np : Int) == 1) = false := by
      rw [beq_eq_false_iff_ne]
      intro e
      exact h2 (HONE.out.1 (by omega))
    clear HF
    subst h1 h3 h4 h5 h6 h7 h8 h9
    clear h2
    go_wp2_with fail
    refine (setEmpty_calls w9).mono ?_
    rintro e w10 ⟨rfl, hg10⟩
    have HG10 := hid (grown_trans0 HG9.out hg10)
    clear hg10
    go_wp2
    go_ret
    exact ⟨rfl, HG10.out⟩
  · have bp : ((nl : Int) + (plAll PN PX np : Int) == 1) = true := by
      rw [beq_iff_eq]
      have := HONE.out.2 h2
      omega
    have HRD := hid (h3.kept0 (grown_trans0 (World.grownBy_alloc w4 _ none) HX9.out))
    clear HF h2 h3
    subst h1
    go_wp2_with fail
    refine (holds_ready HRD.out HB9.out).mono ?_
    rintro e w10 ⟨rfl, hg10⟩
    have HG10 := hid (grown_trans0 HG9.out hg10)
    clear hg10
    go_wp2
    go_ret
    exact ⟨rfl, HG10.out⟩
end Go.Proofs.Qxb6614184aMods.L
