/- Slices that came in, opened as rows: of numbers, of rows, of rows of rows. -/
import Derived.Test.Qxb6614184aModsL
import Derived.Deep.Slices
import Derived.ProofKit
namespace Go.Proofs.Qxb6614184aMods.L
open Go.RowKit Go.ChangeShapes Go.WideShapes Go.Deep

theorem cell_lt {w : World} {a : Addr} {v : Value} (h : w.cell? a = some v) : a.block < w.heap.size := by
  by_cases e : a.block < w.heap.size
  · exact e
  · have : w.heap[a.block]? = none := Array.getElem?_eq_none (by omega)
    unfold World.cell? at h
    rw [this] at h
    simp at h

/-- The cells of a slice that is not nil, as a row. -/
theorem row_of (w : World) (a : Addr) (n c : Nat) (hn : n ≤ c) (hc : c ≤ maxLen) (f : Nat → Value) (h : ∀ i, i < n → w.cell? (a.add i) = some (f i)) : Row w none (.slice (some a) n c) n f := by
  refine ⟨some a, c, rfl, hn, hc, fun h0 => ?_⟩
  obtain ⟨b, off, spot⟩ := a
  have hspot : spot = none := by simpa [Addr.add] using World.cell?_spot (h 0 h0)
  subst hspot
  refine ⟨b, off, rfl, ?_, by simp, fun i hi => by rw [← add_plain]; exact h i hi⟩
  have := cell_lt (h 0 h0)
  simpa [Addr.add] using this

theorem row_none (w : World) (f : Nat → Value) : Row w none (.slice none 0 0) 0 f := ⟨none, 0, rfl, by omega, by simp [maxLen], fun h => absurd h (by omega)⟩

section
variable {H : Type} {enc : TypeId × Value → H} {P : Program} {w : World}

/-- A slice of unsigned numbers below B. -/
theorem open1 {t e : TypeId} {k : IntKind} {fuel : Nat} {v : Value} {x : DataW H × List MemPlace} (B : Nat) (hB : 0 < B) (hwf : ∀ z, (Lit.int k z).wf = true → 0 ≤ z ∧ z < (B : Int))
    (ht : P.underlying t = some (.slice e)) (he : P.underlying e = some (.int k)) (hc : P.cellsOf e = 1) (h : DataW.trod enc P w 0 (fun _ => true) true fuel t [v] = some x) :
    ∃ (n : Nat) (Z : Nat → Nat), Row w none v n (U k Z) ∧ ∀ i, Z i < B := by
  rcases open_ints ht he hc h with ⟨hcs, _⟩ | ⟨a, len, cap, zs, hcs, _, hl, hm, hz, _, hcell, hw⟩
  · have e0 : v = .slice none 0 0 := by simpa using hcs
    rw [e0]
    exact ⟨0, fun _ => 0, row_none _ _, fun _ => hB⟩
  · have e0 : v = .slice (some a) len cap := by simpa using hcs
    rw [e0]
    simp only [if_true] at hz
    have hget : ∀ i, i < zs.length → 0 ≤ zs.getD i 0 ∧ zs.getD i 0 < (B : Int) := fun i hi => by
      refine hwf _ (hw _ ?_)
      rw [List.getD_eq_getElem?_getD, List.getElem?_eq_getElem hi]
      exact List.getElem_mem hi
    refine ⟨len, fun i => (zs.getD i 0).toNat, row_of w a len cap hl hm _ (fun i hi => ?_), fun i => ?_⟩
    · rw [hcell i (by omega)]
      have := hget i (by omega)
      show some (Value.int k (zs.getD i 0)) = some (Value.int k (((zs.getD i 0).toNat : Nat) : Int))
      rw [Int.toNat_of_nonneg this.1]
    · by_cases hi : i < zs.length
      · have := hget i hi
        show (zs.getD i 0).toNat < B
        omega
      · show (zs.getD i 0).toNat < B
        rw [List.getD_eq_getElem?_getD, List.getElem?_eq_none (by omega)]
        show (0 : Int).toNat < B
        omega

/-- A slice of such slices. -/
theorem open2 {t e q : TypeId} {k : IntKind} {fuel : Nat} {v : Value} {x : DataW H × List MemPlace} (B : Nat) (hB : 0 < B) (hwf : ∀ z, (Lit.int k z).wf = true → 0 ≤ z ∧ z < (B : Int))
    (ht : P.underlying t = some (.slice e)) (he : P.underlying e = some (.slice q)) (hq : P.underlying q = some (.int k)) (ce : P.cellsOf e = 1) (cq : P.cellsOf q = 1) (h : DataW.trod enc P w 0 (fun _ => true) true fuel t [v] = some x) :
    ∃ (n : Nat) (L : Nat → Nat) (Y : Nat → Nat → Nat), Rows2 w none k v n L Y ∧ ∀ i j, Y i j < B := by
  rcases open_slice1 ht ce h with ⟨hcs, _⟩ | ⟨a, len, cap, m, fu, V, D, Pl, hcs, _, hl, hm, hmm, _, hx⟩
  · have e0 : v = .slice none 0 0 := by simpa using hcs
    rw [e0]
    exact ⟨0, fun _ => 0, fun _ _ => 0, ⟨fun _ => undef, row_none _ _, fun i hi => absurd hi (by omega)⟩, fun _ _ => hB⟩
  · have e0 : v = .slice (some a) len cap := by simpa using hcs
    rw [e0]
    simp only [if_true] at hmm
    obtain ⟨y, hy⟩ := choose_lt (α := Nat × (Nat → Nat)) (n := len) (p := fun i y => Row w none (V i) y.1 (U k y.2) ∧ ∀ j, y.2 j < B) (fun i hi => by
      obtain ⟨n, Z, h1, h2⟩ := open1 B hB hwf he hq cq (hx i (by omega)).2
      exact ⟨(n, Z), h1, h2⟩)
    refine ⟨len, fun i => (y i).1, fun i j => if i < len then (y i).2 j else 0, ⟨V, row_of w a len cap hl hm V (fun i hi => (hx i (by omega)).1), fun i hi => ?_⟩, fun i j => ?_⟩
    · have h1 := (hy i hi).1
      have e1 : (fun j => if i < len then (y i).2 j else 0) = (y i).2 := by
        funext j
        rw [if_pos hi]
      show Row w none (V i) (y i).1 (U k (fun j => if i < len then (y i).2 j else 0))
      rw [e1]
      exact h1
    · show (if i < len then (y i).2 j else 0) < B
      by_cases hi : i < len
      · rw [if_pos hi]; exact (hy i hi).2 j
      · rw [if_neg hi]; exact hB

/-- A slice of slices of such slices. -/
theorem open3 {t e q u : TypeId} {k : IntKind} {fuel : Nat} {v : Value} {x : DataW H × List MemPlace} (B : Nat) (hB : 0 < B) (hwf : ∀ z, (Lit.int k z).wf = true → 0 ≤ z ∧ z < (B : Int))
    (ht : P.underlying t = some (.slice e)) (he : P.underlying e = some (.slice q)) (hq : P.underlying q = some (.slice u)) (hu : P.underlying u = some (.int k)) (ce : P.cellsOf e = 1) (cq : P.cellsOf q = 1) (cu : P.cellsOf u = 1) (h : DataW.trod enc P w 0 (fun _ => true) true fuel t [v] = some x) :
    ∃ (n : Nat) (N : Nat → Nat) (L : Nat → Nat → Nat) (Y : Nat → Nat → Nat → Nat), Rows3 w none k v n N L Y ∧ ∀ i j s, Y i j s < B := by
  rcases open_slice1 ht ce h with ⟨hcs, _⟩ | ⟨a, len, cap, m, fu, V, D, Pl, hcs, _, hl, hm, hmm, _, hx⟩
  · have e0 : v = .slice none 0 0 := by simpa using hcs
    rw [e0]
    exact ⟨0, fun _ => 0, fun _ _ => 0, fun _ _ _ => 0, ⟨fun _ => undef, row_none _ _, fun i hi => absurd hi (by omega)⟩, fun _ _ _ => hB⟩
  · have e0 : v = .slice (some a) len cap := by simpa using hcs
    rw [e0]
    simp only [if_true] at hmm
    obtain ⟨y, hy⟩ := choose_lt (α := Nat × (Nat → Nat) × (Nat → Nat → Nat)) (n := len) (p := fun i y => Rows2 w none k (V i) y.1 y.2.1 y.2.2 ∧ ∀ j s, y.2.2 j s < B) (fun i hi => by
      obtain ⟨n, L, Y, h1, h2⟩ := open2 B hB hwf he hq hu cq cu (hx i (by omega)).2
      exact ⟨(n, L, Y), h1, h2⟩)
    refine ⟨len, fun i => (y i).1, fun i => (y i).2.1, fun i j s => if i < len then (y i).2.2 j s else 0, ⟨V, row_of w a len cap hl hm V (fun i hi => (hx i (by omega)).1), fun i hi => ?_⟩, fun i j s => ?_⟩
    · have h1 := (hy i hi).1
      have e1 : (fun j s => if i < len then (y i).2.2 j s else 0) = (y i).2.2 := by
        funext j s
        rw [if_pos hi]
      show Rows2 w none k (V i) (y i).1 (y i).2.1 (fun j s => if i < len then (y i).2.2 j s else 0)
      rw [e1]
      exact h1
    · show (if i < len then (y i).2.2 j s else 0) < B
      by_cases hi : i < len
      · rw [if_pos hi]; exact (hy i hi).2 j s
      · rw [if_neg hi]; exact hB
end

theorem wf_u16 (z : Int) (h : (Lit.int .u16 z).wf = true) : 0 ≤ z ∧ z < ((65536 : Nat) : Int) := by
  simp [Lit.wf, IntKind.min, IntKind.max, IntKind.signed, IntKind.bits] at h
  omega
theorem wf_u32 (z : Int) (h : (Lit.int .u32 z).wf = true) : 0 ≤ z ∧ z < ((4294967296 : Nat) : Int) := by
  simp [Lit.wf, IntKind.min, IntKind.max, IntKind.signed, IntKind.bits] at h
  omega
end Go.Proofs.Qxb6614184aMods.L
