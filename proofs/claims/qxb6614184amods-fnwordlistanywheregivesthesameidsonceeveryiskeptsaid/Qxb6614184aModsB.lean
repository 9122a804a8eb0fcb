/- Bits to chunks: the plain part: the ids of a chunk in order, the chunks that hold any. And rows that a call owns. -/
import Derived.Test.Qxb6614184aModsW6
namespace Go.Proofs.Qxb6614184aMods.L
open Go.RowKit

/-- The low bits below p of the ids of chunk k that T holds. -/
def low (T : Nat → Bool) (k p : Nat) : List Nat := (List.range p).filter fun y => T (cid k y)
/-- The chunks below k that hold any. -/
def keysTo (T : Nat → Bool) (k : Nat) : List Nat := (List.range k).filter fun c => !(low T c 65536).isEmpty

theorem low_zero (T : Nat → Bool) (k : Nat) : low T k 0 = [] := rfl
theorem low_yes {T : Nat → Bool} {k p : Nat} (h : T (cid k p) = true) : low T k (p + 1) = low T k p ++ [p] := by
  unfold low; rw [List.range_succ, List.filter_append]; simp [h]
theorem low_no {T : Nat → Bool} {k p : Nat} (h : T (cid k p) = false) : low T k (p + 1) = low T k p := by
  unfold low; rw [List.range_succ, List.filter_append]; simp [h]
theorem low_none {T : Nat → Bool} {k p : Nat} : ∀ m, (∀ t, t < m → T (cid k (p + t)) = false) → low T k (p + m) = low T k p
  | 0, _ => rfl
  | m + 1, h => by rw [show p + (m + 1) = p + m + 1 from rfl, low_no (h m (by omega)), low_none m (fun t ht => h t (by omega))]
theorem low_length (T : Nat → Bool) (k p : Nat) : (low T k p).length ≤ p := by
  unfold low
  have := List.length_filter_le (fun y => T (cid k y)) (List.range p)
  simpa using this
theorem mem_low {T : Nat → Bool} {k p y : Nat} : y ∈ low T k p ↔ (y < p ∧ T (cid k y) = true) := by
  unfold low; rw [List.mem_filter, List.mem_range]

theorem keys_yes {T : Nat → Bool} {k : Nat} (h : 0 < (low T k 65536).length) : keysTo T (k + 1) = keysTo T k ++ [k] := by
  have e : (low T k 65536).isEmpty = false := by
    cases hl : low T k 65536
    · rw [hl] at h; simp at h
    · rfl
  unfold keysTo; rw [List.range_succ, List.filter_append]; simp only [List.filter_cons, List.filter_nil, e]; rfl
theorem keys_no {T : Nat → Bool} {k : Nat} (h : ¬ 0 < (low T k 65536).length) : keysTo T (k + 1) = keysTo T k := by
  have e : (low T k 65536).isEmpty = true := by
    cases hl : low T k 65536
    · rfl
    · rw [hl] at h; simp at h
  unfold keysTo; rw [List.range_succ, List.filter_append]; simp only [List.filter_cons, List.filter_nil, e]; simp
theorem keys_length (T : Nat → Bool) (k : Nat) : (keysTo T k).length ≤ k := by
  unfold keysTo
  have := List.length_filter_le (fun c => !(low T c 65536).isEmpty) (List.range k)
  simpa using this
theorem mem_keys {T : Nat → Bool} {k c : Nat} : c ∈ keysTo T k ↔ (c < k ∧ low T c 65536 ≠ []) := by
  unfold keysTo; rw [List.mem_filter, List.mem_range]; simp

/-- Numbers as cells. -/
def cellsU (k : IntKind) (l : List Nat) : List Value := l.map fun y : Nat => .int k (y : Int)

theorem cellsU_append (k : IntKind) (l l' : List Nat) : cellsU k (l ++ l') = cellsU k l ++ cellsU k l' := by unfold cellsU; simp
theorem cellsU_length (k : IntKind) (l : List Nat) : (cellsU k l).length = l.length := by unfold cellsU; simp

/-- The slice value v owns the cells xs, one an element, among the blocks from B on. -/
def Own (w : World) (B : Nat) (e : TypeId) (v : Value) (xs : List Value) : Prop := w.ownsRow B e 1 v xs.length xs

theorem Own.form {w : World} {B : Nat} {e : TypeId} {v : Value} {xs : List Value} (h : Own w B e v xs) : ∃ a c, v = .slice a xs.length c := by
  rcases h.2 with ⟨h1, h2⟩ | ⟨g, cap, cur, h1, _⟩
  · exact ⟨none, 0, by rw [h1, h2]⟩
  · exact ⟨_, _, h1⟩

theorem Own.nil (w : World) (B : Nat) (e : TypeId) : Own w B e (.slice none 0 0) [] := World.ownsRow_nil _ _ _ _

theorem Own.kept {w w1 : World} {B : Nat} {e : TypeId} {v : Value} {xs : List Value} {r : Option Nat} (h : Own w B e v xs) (hg : w.grownBy w1 r) (hr : v.ownBlock = none ∨ v.ownBlock ≠ r) : Own w1 B e v xs :=
  World.ownsRow.kept h hg hr

theorem Own.kept0 {w w1 : World} {B : Nat} {e : TypeId} {v : Value} {xs : List Value} (h : Own w B e v xs) (hg : w.grownBy w1 none) : Own w1 B e v xs := by
  refine World.ownsRow.kept h hg ?_
  cases e : v.ownBlock with
  | none => exact Or.inl rfl
  | some g => exact Or.inr (by simp)

/-- Rows of two element types lie apart. -/
theorem Own.apart {w : World} {B B' : Nat} {e e' : TypeId} {v v' : Value} {xs xs' : List Value} (h : Own w B e v xs) (h' : Own w B' e' v' xs') (ne : e ≠ e') : v.ownBlock = none ∨ v.ownBlock ≠ v'.ownBlock := by
  rcases h.2 with ⟨h1, h2⟩ | ⟨g, cap, cur, h1, _, hg, _⟩
  · exact Or.inl (by rw [h1]; rfl)
  · rcases h'.2 with ⟨k1, k2⟩ | ⟨g', cap', cur', k1, _, hg', _⟩
    · exact Or.inr (by rw [h1, k1]; simp [Value.ownBlock])
    · refine Or.inr (fun e0 => ?_)
      rw [h1, k1] at e0
      have : g = g' := by simpa [Value.ownBlock] using e0
      subst this
      rw [hg] at hg'
      have := Option.some.inj hg'
      injection this with _ hh
      exact ne hh

/-- A row from B on lies apart from a block below B. -/
theorem Own.above {w : World} {B : Nat} {e : TypeId} {v : Value} {xs : List Value} (h : Own w B e v xs) (b : Nat) (hb : v.ownBlock = some b) : B ≤ b := by
  rcases h.2 with ⟨h1, h2⟩ | ⟨g, cap, cur, h1, hB, _⟩
  · rw [h1] at hb; simp [Value.ownBlock] at hb
  · rw [h1] at hb
    have : g = b := by simpa [Value.ownBlock] using hb
    omega

theorem Own.below {w : World} {B : Nat} {e : TypeId} {v : Value} {xs : List Value} (h : Own w B e v xs) (b : Nat) (hb : v.ownBlock = some b) : b < w.heap.size := by
  rcases h.2 with ⟨h1, h2⟩ | ⟨g, cap, cur, h1, _, hg, _⟩
  · rw [h1] at hb; simp [Value.ownBlock] at hb
  · rw [h1] at hb
    have : g = b := by simpa [Value.ownBlock] using hb
    subst this
    exact (Array.getElem?_eq_some_iff.1 hg).1

theorem Own.low {w : World} {B B' : Nat} {e : TypeId} {v : Value} {xs : List Value} (h : Own w B e v xs) (hB : B' ≤ B) : Own w B' e v xs := by
  refine ⟨h.1, ?_⟩
  rcases h.2 with h1 | ⟨g, cap, cur, h1, hg, r⟩
  · exact Or.inl h1
  · exact Or.inr ⟨g, cap, cur, h1, by omega, r⟩

/-- A row that is owned is a row. -/
theorem Own.row {w : World} {B : Nat} {e : TypeId} {v : Value} {xs : List Value} (h : Own w B e v xs) (f : Nat → Value) (hf : ∀ i, i < xs.length → xs[i]? = some (f i)) : Row w none v xs.length f := by
  rcases h.2 with ⟨h1, h2⟩ | ⟨g, cap, cur, h1, hB, hg, hn, hm, hc, ht⟩
  · exact ⟨none, 0, by rw [h1, h2], by omega, by simp [maxLen], fun h0 => absurd h0 (by omega)⟩
  · refine ⟨_, cap, h1, hn, hm, fun _ => ⟨g, 0, rfl, (Array.getElem?_eq_some_iff.1 hg).1, by simp, fun i hi => ?_⟩⟩
    have e1 : w.cell? ⟨g, 0 + i, none⟩ = cur[i]? := by
      unfold World.cell?
      simp only [hg, Nat.zero_add]
      rfl
    rw [e1, ← hf i hi, ← ht, List.getElem?_take, if_pos (by omega)]
    simp
end Go.Proofs.Qxb6614184aMods.L
