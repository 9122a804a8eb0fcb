/- zzSetFromBits. -/
import Derived.Test.Qxb6614184aModsW7
namespace Go.Proofs.Qxb6614184aMods.L
open Go.RowKit

/-- The keys, the lengths, the low bits that zzBitsToChunks gives for T. -/
def tk (T : Nat → Bool) (i : Nat) : Nat := (keysTo T 32).getD i 0
def tl (T : Nat → Bool) (i : Nat) : Nat := (low T (tk T i) 65536).length
def ty (T : Nat → Bool) (i j : Nat) : Nat := (low T (tk T i) 65536).getD j 0
def tn (T : Nat → Bool) : Nat := (keysTo T 32).length

theorem tk_get {T : Nat → Bool} {i : Nat} (h : i < tn T) : (keysTo T 32)[i]? = some (tk T i) := by
  unfold tk tn at *
  rw [List.getD_eq_getElem?_getD, List.getElem?_eq_getElem h]
  rfl

theorem tn_le (T : Nat → Bool) : tn T ≤ 32 := keys_length T 32
theorem tl_le (T : Nat → Bool) (i : Nat) : tl T i ≤ 65536 := low_length T _ _
theorem tot_bound (L : Nat → Nat) (m : Nat) : ∀ n, (∀ i, i < n → L i ≤ m) → tot L n ≤ m * n
  | 0, _ => Nat.le_refl _
  | n + 1, h => by
    have h1 := tot_bound L m n (fun i hi => h i (by omega))
    have h2 := h n (by omega)
    show tot L n + L n ≤ m * (n + 1)
    rw [Nat.mul_add]
    omega

theorem cellsU_get {k : IntKind} {l : List Nat} {i : Nat} (h : i < l.length) : (cellsU k l)[i]? = some (.int k ((l.getD i 0 : Nat) : Int)) := by
  unfold cellsU
  rw [List.getElem?_map, List.getElem?_eq_getElem h, List.getD_eq_getElem?_getD, List.getElem?_eq_getElem h]
  rfl

/-- A row that is owned is a row, outside every block below its base. -/
theorem Own.rowAt {w : World} {B : Nat} {e : TypeId} {v : Value} {xs : List Value} (h : Own w B e v xs) (r : Option Nat) (hr : ∀ b, r = some b → b < B) (f : Nat → Value) (hf : ∀ i, i < xs.length → xs[i]? = some (f i)) : Row w r v xs.length f := by
  obtain ⟨a, c, h1, h2, h3, h4⟩ := h.row f hf
  refine ⟨a, c, h1, h2, h3, fun h0 => ?_⟩
  obtain ⟨b, off, ha, hb, _, hc⟩ := h4 h0
  refine ⟨b, off, ha, hb, fun e0 => ?_, hc⟩
  have := hr b e0
  have := h.above b (by rw [h1, ha]; rfl)
  omega

theorem Gathered.rows {w : World} {B : Nat} {T : Nat → Bool} {kv lv : Value} {vs : List Value} (h : Gathered w B T 32 kv lv vs) (r : Option Nat) (hr : ∀ b, r = some b → b < B) :
    Row w r kv (tn T) (U .u32 (tk T)) ∧ Rows2 w r .u16 lv (tn T) (tl T) (ty T) := by
  refine ⟨?_, fun i => vs.getD i undef, ?_, fun i hi => ?_⟩
  · have := h.keys.rowAt r hr (U .u32 (tk T)) (fun i hi => by rw [cellsU_length] at hi; exact cellsU_get hi)
    rw [cellsU_length] at this
    exact this
  · have := h.lists.rowAt r hr (fun i => vs.getD i undef) (fun i hi => by rw [List.getD_eq_getElem?_getD, List.getElem?_eq_getElem hi]; rfl)
    rw [h.len] at this
    exact this
  · have hv : i < vs.length := by rw [h.len]; exact hi
    have := (h.each i (tk T i) (vs.getD i undef) (tk_get hi) (by rw [List.getD_eq_getElem?_getD, List.getElem?_eq_getElem hv]; rfl)).rowAt r hr (U .u16 (ty T i)) (fun j hj => by rw [cellsU_length] at hj; exact cellsU_get hj)
    rw [cellsU_length] at this
    exact this

theorem setFromBits_calls (b : Nat) (S : Nat → Prop) (T : Nat → Bool) (hT : ∀ x, T x = true ↔ S x) (w : World) (hB : Bits w b S) :
    Calls Trym.prog 22 #[.slice (some ⟨b, 0, none⟩) 32768 32768] w fun e w' => ∃ g, e = .returned (.agg #[.slice (some ⟨g, 0, none⟩) (tn T) (tn T), .slice none 0 0, .int .i64 (tot (tl T) (tn T) : Int)]) ∧ w.grownBy w' none ∧ Chunks w' none g (tn T) (tk T) (tl T) (ty T) := by
  have HB := hid hB
  have HT := hid hT
  clear hB hT
  go_enter Trym.func22, Trym.ntmps22
  go_wp2_with fail
  refine (bitsToChunks_calls b S T HT.out _ (HB.out.kept (World.grownBy_alloc _ _ none) (by simp))).mono ?_
  rintro e w1 ⟨kv, lv, vs, rfl, hg1, hG⟩
  have HR := hid (hG.rows (some w.heap.size) (fun b e => by cases e; simp))
  have hz1 : w.heap.size < w1.heap.size := by have := hg1.size; simp at this; omega
  have HG1 := hid hg1
  clear hG hg1
  go_wp2_with fail
  refine (buildSet_calls kv lv (tn T) (tk T) (tl T) (ty T) w1 (some w.heap.size) (fun b e => by cases e; exact hz1) HR.out.1 HR.out.2 (by have := tn_le T; omega) (fun i _ => by have := tl_le T i; omega) (by have h1 := tot_bound (tl T) 65536 (tn T) (fun i _ => tl_le T i); have := tn_le T; omega)).mono ?_
  rintro e w2 ⟨g, rfl, hg2, hC⟩
  have F := (free3 w (.slice none 0 0) (.slice none 0 0) (.int .i64 0) 39).kept (grown_trans0 HG1.out hg2) (by simp)
  obtain ⟨f0, v0, k0⟩ := F.2 0 (by omega)
  obtain ⟨f1, v1, k1⟩ := F.2 1 (by omega)
  obtain ⟨f2, v2, k2⟩ := F.2 2 (by omega)
  have hz : w.heap.size < w2.heap.size := F.1
  have HG := hid (grown_trans0 (World.grownBy_alloc w _ none) (grown_trans0 HG1.out hg2))
  have HC := hid hC
  clear F hg2 hC
  go_wp2
  have GW := hid (grown_set (grown_set (grown_setCell w2 ⟨w.heap.size, 0, none⟩ (.slice (some ⟨g, 0, none⟩) (tn T) (tn T))) ⟨w.heap.size, 1, none⟩ (.slice none 0 0) (Or.inl rfl)) ⟨w.heap.size, 2, none⟩ (.int .i64 (tot (tl T) (tn T) : Int)) (Or.inl rfl))
  have GN := hid (grown_trans HG.out GW.out (fun b e => Or.inr (by cases e; exact Nat.le_refl _)))
  exact bodyPost_ret (v := .agg #[.slice (some ⟨g, 0, none⟩) (tn T) (tn T), .slice none 0 0, .int .i64 (tot (tl T) (tn T) : Int)]) (by simp [results, Trym.results22, go_sem, k0, k1, k2]) rfl
    ⟨g, rfl, GN.out, (HC.out.kept GW.out).any⟩
end Go.Proofs.Qxb6614184aMods.L
