/- FnWordListAnywhereGivesTheSameIdsOnceEveryIsKept: the row out of the law's walk. -/
import Derived.Test.Qxb6614184aModsRows
import Derived.Test.Qxb6614184aModsO
import Derived.Test.Qxb6614184aModsW14
import Derived.WalkKit
import Derived.ProofKit
import Derived.OpenShut
import Derived.ShutString
import Derived.ChangeOld
import Derived.Below
namespace Go.Proofs.Qxb6614184aMods.fnWordListAnywhereGivesTheSameIdsOnceEveryIsKept
open Go.ChangeShapes Go.WideShapes Go.ChangeAt Go.RowKit
open Go.ChangeMaps (open_string shut_string)

theorem own : ownKnob Trym.prog.godebug = none := by kernel_rfl
theorem laidOut : laidOutB Trym.prog = true := by kernel_rfl

set_option maxRecDepth 100000 in
theorem lifted (os : Os) (started : os.Started) (H : Type) (enc : TypeId × Value → H) :
    ReturnsInHanded {} Trym.checked os 5 .any (Rows.fnWordListAnywhereGivesTheSameIdsOnceEveryIsKeptSpec.pre6 enc Trym.prog Trym.f5 Rows.fnWordListAnywhereGivesTheSameIdsOnceEveryIsKeptRow.domain false) (Rows.fnWordListAnywhereGivesTheSameIdsOnceEveryIsKeptSpec.post enc Trym.prog Trym.f5 false true false false) := by
  refine returnsInHanded_of_change (C := Trym.checked) own started (by kernel_rfl) Trym.func5
    (ChangeSpec.witness6 (enc := enc) (C := Trym.checked) false ⟨#[], #[.string ByteArray.empty, .int .i64 0, .int .i64 0, .int .u64 0, .slice none 0 0, .slice none 0 0, .slice none 0 0, .slice none 0 0], []⟩ 8 (by kernel_rfl) (by kernel_rfl) (by kernel_rfl) (by kernel_rfl)) ?_
  intro W base args ds gs before hval0 hW hcnd _
  have hval : ∀ (j : Nat) t v, Trym.f5.params[j]? = some t → args[j]? = some v → Value.okWide Trym.prog W .any base t v := hval0
  have hW' := hW
  obtain ⟨p, q, hA0, hV, rfl, hfz, hnd⟩ := hW
  have hA : DataW.TrodAll enc Trym.prog W 0 (fun _ => true) true Trym.f5.params.toList args.toList ds p := hA0
  rw [Trym.params5] at hA hval
  obtain ⟨v0, vs0, d0, ds0, p0, q0, hargs, rfl, rfl, h0, r0⟩ := trodAll_cons hA
  obtain ⟨v1, vs1, d1, ds1, p1, q1, rfl, rfl, rfl, h1, r1⟩ := trodAll_cons r0
  obtain ⟨v2, vs2, d2, ds2, p2, q2, rfl, rfl, rfl, h2, r2⟩ := trodAll_cons r1
  obtain ⟨v3, vs3, d3, ds3, p3, q3, rfl, rfl, rfl, h3, r3⟩ := trodAll_cons r2
  obtain ⟨v4, vs4, d4, ds4, p4, q4, rfl, rfl, rfl, h4, r4⟩ := trodAll_cons r3
  obtain ⟨v5, vs5, d5, ds5, p5, q5, rfl, rfl, rfl, h5, r5⟩ := trodAll_cons r4
  obtain ⟨v6, vs6, d6, ds6, p6, q6, rfl, rfl, rfl, h6, r6⟩ := trodAll_cons r5
  obtain ⟨v7, vs7, d7, ds7, p7, q7, rfl, rfl, rfl, h7, r7⟩ := trodAll_cons r6
  obtain ⟨rfl, rfl, rfl⟩ := trodAll_nil r7
  obtain rfl : args = #[v0, v1, v2, v3, v4, v5, v6, v7] := by cases args; simp_all
  obtain ⟨rfl, rfl⟩ := trodVars_none hV
  obtain ⟨a0, rfl, rfl, rfl, w0⟩ := open_string Trym.underlying9 (hval 0 9 v0 rfl rfl) h0
  obtain ⟨a1, rfl, rfl, rfl, w1⟩ := open_int Trym.underlying3 (hval 1 3 v1 rfl rfl) h1
  obtain ⟨a2, rfl, rfl, rfl, w2⟩ := open_int Trym.underlying3 (hval 2 3 v2 rfl rfl) h2
  obtain ⟨a3, rfl, rfl, rfl, w3⟩ := open_int Trym.underlying22 (hval 3 22 v3 rfl rfl) h3
  obtain ⟨s4, l4, c4, rfl⟩ := okWide_slice Trym.underlying23 (hval 4 23 v4 rfl rfl)
  obtain ⟨s5, l5, c5, rfl⟩ := okWide_slice Trym.underlying24 (hval 5 24 v5 rfl rfl)
  obtain ⟨s6, l6, c6, rfl⟩ := okWide_slice Trym.underlying25 (hval 6 25 v6 rfl rfl)
  obtain ⟨s7, l7, c7, rfl⟩ := okWide_slice Trym.underlying24 (hval 7 24 v7 rfl rfl)
  have lt4 : ∀ x ∈ p4, x.block < W.heap.size := by obtain ⟨m, hm⟩ := h4; exact DataW.trod_lt m _ _ _ hm
  have lt5 : ∀ x ∈ p5, x.block < W.heap.size := by obtain ⟨m, hm⟩ := h5; exact DataW.trod_lt m _ _ _ hm
  have lt6 : ∀ x ∈ p6, x.block < W.heap.size := by obtain ⟨m, hm⟩ := h6; exact DataW.trod_lt m _ _ _ hm
  have lt7 : ∀ x ∈ p7, x.block < W.heap.size := by obtain ⟨m, hm⟩ := h7; exact DataW.trod_lt m _ _ _ hm
  obtain ⟨nd, DP, R4, B4⟩ : ∃ (n : Nat) (Z : Nat → Nat), L.Row W none (.slice s4 l4 c4) n (L.U .u16 Z) ∧ ∀ i, Z i < 65536 := by
    obtain ⟨m, hm⟩ := h4
    exact L.open1 65536 (by omega) L.wf_u16 Trym.underlying23 Trym.underlying54 (by kernel_rfl) (by simpa [Value.cells] using hm)
  obtain ⟨nk, KN, KX, R5, B5⟩ : ∃ (n : Nat) (L' : Nat → Nat) (Y : Nat → Nat → Nat), L.Rows2 W none .u32 (.slice s5 l5 c5) n L' Y ∧ ∀ i j, Y i j < 4294967296 := by
    obtain ⟨m, hm⟩ := h5
    exact L.open2 4294967296 (by omega) L.wf_u32 Trym.underlying24 Trym.underlying26 Trym.underlying55 (by kernel_rfl) (by kernel_rfl) (by simpa [Value.cells] using hm)
  obtain ⟨nl, LN, LL, YY, R6, B6⟩ : ∃ (n : Nat) (N : Nat → Nat) (L' : Nat → Nat → Nat) (Y : Nat → Nat → Nat → Nat), L.Rows3 W none .u16 (.slice s6 l6 c6) n N L' Y ∧ ∀ i j s, Y i j s < 65536 := by
    obtain ⟨m, hm⟩ := h6
    exact L.open3 65536 (by omega) L.wf_u16 Trym.underlying25 Trym.underlying27 Trym.underlying23 Trym.underlying54 (by kernel_rfl) (by kernel_rfl) (by kernel_rfl) (by simpa [Value.cells] using hm)
  obtain ⟨np, PN, PX, R7, B7⟩ : ∃ (n : Nat) (L' : Nat → Nat) (Y : Nat → Nat → Nat), L.Rows2 W none .u32 (.slice s7 l7 c7) n L' Y ∧ ∀ i j, Y i j < 4294967296 := by
    obtain ⟨m, hm⟩ := h7
    exact L.open2 4294967296 (by omega) L.wf_u32 Trym.underlying24 Trym.underlying26 Trym.underlying55 (by kernel_rfl) (by kernel_rfl) (by simpa [Value.cells] using hm)
  clear hA0 hval0
  refine (L.law_calls a0 a1 a2 a3 _ _ _ _ nd nk nl np DP KN LN PN KX LL PX YY W w0 R4 R5 R6 R7 B4 B6 B7).mono fun e W' ⟨he, hg⟩ => ?_
  subst he
  have bel := L.grown_below hg
  exact ⟨_, rfl, _, _, _, [], _, [], hW', trodAll_mk1 (shut_bool Trym.underlying4 _),
    (trodAll_cons_mk (shut_string Trym.underlying9 w0) (trodAll_cons_mk (shut_int Trym.underlying3 w1) (trodAll_cons_mk (shut_int Trym.underlying3 w2) (trodAll_cons_mk (shut_int Trym.underlying22 w3)
      (trodAll_cons_mk (Below.trod laidOut (by kernel_rfl) (of_decide_eq_true (by kernel_rfl)) h4 bel lt4) (trodAll_cons_mk (Below.trod laidOut (by kernel_rfl) (of_decide_eq_true (by kernel_rfl)) h5 bel lt5)
        (trodAll_cons_mk (Below.trod laidOut (by kernel_rfl) (of_decide_eq_true (by kernel_rfl)) h6 bel lt6) (trodAll_cons_mk (Below.trod laidOut (by kernel_rfl) (of_decide_eq_true (by kernel_rfl)) h7 bel lt7) trodAll_mk0)))))))), rfl, bel.frame _, fun h => by cases h⟩

theorem over : Rows.fnWordListAnywhereGivesTheSameIdsOnceEveryIsKeptRow.holds Trym.pinned (OpenSpec.ofChange Rows.fnWordListAnywhereGivesTheSameIdsOnceEveryIsKeptSpec) :=
  OpenClaim.holds_of_wide 5 Trym.f5 rfl rfl rfl rfl rfl rfl rfl ⟨rfl, rfl, rfl, rfl, rfl⟩ rfl rfl rfl rfl rfl (by kernel_rfl) Trym.func5 (by kernel_rfl)
    (of_decide_eq_true (by kernel_rfl)) (by unfold Func.isWrapper; first | (rw [if_pos (by decide +kernel)]; kernel_rfl) | (rw [if_neg (by decide +kernel)]; exact ⟨rfl, rfl⟩))
    (fun os started H enc _ => lifted os started H enc)

/-- The given statement. -/
theorem proved : Rows.FnWordListAnywhereGivesTheSameIdsOnceEveryIsKeptSaid :=
  over
end Go.Proofs.Qxb6614184aMods.fnWordListAnywhereGivesTheSameIdsOnceEveryIsKept
