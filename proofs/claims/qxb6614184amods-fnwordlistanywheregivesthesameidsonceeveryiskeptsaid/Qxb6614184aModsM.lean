/- The plain law: counts of places, bounds, the set that the bits give. -/
import Derived.Test.Qxb6614184aModsW11
namespace Go.Proofs.Qxb6614184aMods.L
open Go.RowKit

/-! ### Bounds -/
/-- A row that rises and stays below N is no longer than N. -/
theorem rises_le {f : Nat → Nat} {n N : Nat} (h : ∀ i, i + 1 < n → f i < f (i + 1)) (hN : ∀ i, i < n → f i < N) : n ≤ N := by
  have key : ∀ i, i < n → i ≤ f i := by
    intro i
    induction i with
    | zero => intro _; omega
    | succ i ih => intro hi; have := ih (by omega); have := h i hi; omega
  by_cases h0 : n = 0
  · omega
  · have h1 := key (n - 1) (by omega)
    have h2 := hN (n - 1) (by omega)
    omega

theorem COK.count {n : Nat} {kx L : Nat → Nat} {Y : Nat → Nat → Nat} (h : COK n kx L Y) : n ≤ 32 := rises_le h.inc h.key
theorem COK.length {n : Nat} {kx L : Nat → Nat} {Y : Nat → Nat → Nat} (h : COK n kx L Y) (hY : ∀ i j, Y i j < 65536) {i : Nat} (hi : i < n) : L i ≤ 65536 := rises_le (h.linc i hi) (fun j _ => hY i j)
theorem COK.total {n : Nat} {kx L : Nat → Nat} {Y : Nat → Nat → Nat} (h : COK n kx L Y) (hY : ∀ i j, Y i j < 65536) : tot L n ≤ 2097152 := by
  have h1 := tot_bound L 65536 n (fun i hi => h.length hY hi)
  have h2 := h.count
  omega
theorem POK.length {n : Nat} {PN : Nat → Nat} {PX : Nat → Nat → Nat} (h : POK n PN PX) (hPX : ∀ i j, PX i j < 4294967296) {i : Nat} (hi : i < n) : PN i ≤ 4294967296 := rises_le (h.inc i hi) (fun j _ => hPX i j)
theorem POK.total {n : Nat} {PN : Nat → Nat} {PX : Nat → Nat → Nat} (h : POK n PN PX) (hPX : ∀ i j, PX i j < 4294967296) (hn : n ≤ 1048576) : tot PN n ≤ 4503599627370496 := by
  have h1 := tot_bound PN 4294967296 n (fun i hi => h.length hPX hi)
  omega

/-! ### Places -/
theorem pl_pos (p : Nat → Nat) : ∀ m, 0 < m → 1 ≤ pl p m
  | 0, h => absurd h (by omega)
  | 1, _ => by rw [pl_yes (Or.inl rfl)]; omega
  | m + 2, _ => by
    have := pl_pos p (m + 1) (by omega)
    by_cases h : m + 1 = 0 ∨ p (m + 1 - 1) / 2097152 ≠ p (m + 1) / 2097152
    · rw [pl_yes h]; omega
    · rw [pl_no h]; exact this

/-- One place: the first and the last entry stand at it. -/
theorem pl_one (p : Nat → Nat) (m : Nat) (hm : 0 < m) (hinc : ∀ j, j + 1 < m → p j < p (j + 1)) : pl p m = 1 ↔ p 0 / 2097152 = p (m - 1) / 2097152 := by
  induction m with
  | zero => exact absurd hm (by omega)
  | succ m ih =>
    by_cases h0 : m = 0
    · subst h0
      rw [pl_yes (Or.inl rfl)]
      exact ⟨fun _ => rfl, fun _ => rfl⟩
    · have ih' := ih (by omega) (fun j hj => hinc j (by omega))
      have hpos := pl_pos p m (by omega)
      have hlast := hinc (m - 1) (by omega)
      have e1 : m - 1 + 1 = m := by omega
      rw [e1] at hlast
      have e2 : m + 1 - 1 = m := by omega
      rw [e2]
      have hmono : p 0 ≤ p (m - 1) := by
        by_cases h1 : m - 1 = 0
        · rw [h1]; exact Nat.le_refl _
        · exact Nat.le_of_lt (rises (n := m + 1) hinc (m - 1) (by omega) 0 (by omega))
      by_cases h : m = 0 ∨ p (m - 1) / 2097152 ≠ p m / 2097152
      · rw [pl_yes h]
        constructor
        · intro h1; omega
        · intro h1
          rcases h with h | h
          · omega
          · exact absurd (by omega) h
      · rw [pl_no h, ih']
        have h2 : p (m - 1) / 2097152 = p m / 2097152 := by
          by_cases e : p (m - 1) / 2097152 = p m / 2097152
          · exact e
          · exact absurd (Or.inr e) h
        rw [h2]

theorem plAll_ge (PN : Nat → Nat) (PX : Nat → Nat → Nat) : ∀ n, (∀ i, i < n → 0 < PN i) → n ≤ plAll PN PX n
  | 0, _ => Nat.le_refl _
  | n + 1, h => by
    have h1 := plAll_ge PN PX n (fun i hi => h i (by omega))
    have h2 := pl_pos (PX n) (PN n) (h n (by omega))
    show n + 1 ≤ plAll PN PX n + pl (PX n) (PN n)
    omega

theorem one_iff {nd np : Nat} {PN : Nat → Nat} {PX : Nat → Nat → Nat} (h : POK np PN PX) : nd + plAll PN PX np = 1 ↔ One nd np PN PX := by
  have hge := plAll_ge PN PX np h.ne
  unfold One
  by_cases h0 : np = 0
  · subst h0
    have e : plAll PN PX 0 = 0 := rfl
    rw [e]
    constructor
    · intro h1; exact Or.inl ⟨by omega, rfl⟩
    · rintro (⟨h1, _⟩ | ⟨_, h1, _⟩)
      · omega
      · omega
  · by_cases h1 : np = 1
    · subst h1
      have e : plAll PN PX 1 = pl (PX 0) (PN 0) := by show 0 + pl (PX 0) (PN 0) = _; omega
      rw [e] at hge ⊢
      have hp := pl_one (PX 0) (PN 0) (h.ne 0 (by omega)) (h.inc 0 (by omega))
      constructor
      · intro h2
        exact Or.inr ⟨by omega, rfl, hp.1 (by omega)⟩
      · rintro (⟨_, h2⟩ | ⟨h2, _, h3⟩)
        · omega
        · have := hp.2 h3; omega
    · constructor
      · intro h2; omega
      · rintro (⟨_, h2⟩ | ⟨_, h2, _⟩)
        · omega
        · omega

/-- At one place alone no id comes twice. -/
theorem pid_apart {p : Nat → Nat} {m : Nat} (hinc : ∀ j, j + 1 < m → p j < p (j + 1)) (he : p 0 / 2097152 = p (m - 1) / 2097152) : ∀ j j', j < j' → j' < m → pid (p j) ≠ pid (p j') := by
  intro j j' hj hj' e
  have h1 := rises hinc j' hj' j hj
  have h2 : p 0 ≤ p j := by
    by_cases h0 : j = 0
    · rw [h0]; exact Nat.le_refl _
    · exact Nat.le_of_lt (rises hinc j (by omega) 0 (by omega))
  have h3 : p j' ≤ p (m - 1) := by
    by_cases h0 : j' = m - 1
    · rw [h0]; exact Nat.le_refl _
    · exact Nat.le_of_lt (rises hinc (m - 1) (by omega) j' (by omega))
  unfold pid at e
  omega

/-! ### The set that the bits give -/
theorem filter_rises (p : Nat → Bool) (n i : Nat) (h : i + 1 < ((List.range n).filter p).length) : ((List.range n).filter p).getD i 0 < ((List.range n).filter p).getD (i + 1) 0 := by
  have hp : ((List.range n).filter p).Pairwise (· < ·) := List.Pairwise.filter p List.pairwise_lt_range
  rw [List.getD_eq_getElem?_getD, List.getD_eq_getElem?_getD, List.getElem?_eq_getElem h, List.getElem?_eq_getElem (show i < _ by omega)]
  exact List.pairwise_iff_getElem.1 hp i (i + 1) (by omega) h (by omega)

theorem getD_mem (l : List Nat) (i : Nat) (h : i < l.length) : l.getD i 0 ∈ l := by
  rw [List.getD_eq_getElem?_getD, List.getElem?_eq_getElem h]
  exact List.getElem_mem h

theorem mem_getD {l : List Nat} {x : Nat} (h : x ∈ l) : ∃ i, i < l.length ∧ l.getD i 0 = x := by
  obtain ⟨i, hi, e⟩ := List.getElem_of_mem h
  exact ⟨i, hi, by rw [List.getD_eq_getElem?_getD, List.getElem?_eq_getElem hi]; exact e⟩

theorem tk_mem {T : Nat → Bool} {i : Nat} (h : i < tn T) : tk T i < 32 ∧ low T (tk T i) 65536 ≠ [] := mem_keys.1 (getD_mem _ i h)

theorem tCOK (T : Nat → Bool) : COK (tn T) (tk T) (tl T) (ty T) where
  key := fun _ hi => (tk_mem hi).1
  inc := fun i hi => filter_rises _ 32 i hi
  ne := fun _ hi => List.length_pos_iff.2 (tk_mem hi).2
  linc := fun _ _ j hj => filter_rises _ 65536 j hj

theorem ty_lt (T : Nat → Bool) (i j : Nat) : ty T i j < 65536 := by
  unfold ty
  by_cases h : j < (low T (tk T i) 65536).length
  · exact (mem_low.1 (getD_mem _ j h)).1
  · rw [List.getD_eq_getElem?_getD, List.getElem?_eq_none (by omega)]
    show 0 < 65536
    omega

theorem tCH {T : Nat → Bool} {S : Nat → Prop} (hT : ∀ x, T x = true ↔ S x) (hS : ∀ x, S x → x < 2097152) (x : Nat) : S x ↔ CH (tn T) (tk T) (tl T) (ty T) x := by
  constructor
  · intro h
    have hx := hS x h
    have e : cid (x / 65536) (x % 65536) = x := by unfold cid; omega
    have hy : x % 65536 ∈ low T (x / 65536) 65536 := mem_low.2 ⟨by omega, by rw [e]; exact (hT x).2 h⟩
    have hk : x / 65536 ∈ keysTo T 32 := mem_keys.2 ⟨by omega, fun h0 => by rw [h0] at hy; simp at hy⟩
    obtain ⟨i, hi, ei⟩ := mem_getD hk
    have ei' : tk T i = x / 65536 := ei
    obtain ⟨j, hj, ej⟩ := mem_getD hy
    refine ⟨i, hi, j, ?_, ?_⟩
    · show j < (low T (tk T i) 65536).length
      rw [ei']; exact hj
    · have : ty T i j = x % 65536 := by
        show (low T (tk T i) 65536).getD j 0 = _
        rw [ei']; exact ej
      rw [ei', this, e]
  · rintro ⟨i, hi, j, hj, e⟩
    rw [e]
    have hy : ty T i j ∈ low T (tk T i) 65536 := by unfold ty; exact getD_mem _ j hj
    exact (hT (cid (tk T i) (ty T i j))).1 (mem_low.1 hy).2

/-! ### The ids of a list are ids -/
theorem CH_lt {n : Nat} {kx L : Nat → Nat} {Y : Nat → Nat → Nat} {x : Nat} (h : COK n kx L Y) (hY : ∀ i j, Y i j < 65536) (hx : CH n kx L Y x) : x < 2097152 := by
  obtain ⟨i, hi, j, _, rfl⟩ := hx
  exact cid_lt (h.key i hi) (hY i j)

theorem all_lt {nd np : Nat} {DP KN LN PN : Nat → Nat} {KX LL PX : Nat → Nat → Nat} {YY : Nat → Nat → Nat → Nat} (h : DOK nd DP KN LN KX LL YY) (hY : ∀ i j t, YY i j t < 65536) (x : Nat) (hx : UD nd KN KX LL YY x ∨ UP np PN PX x) : x < 2097152 := by
  rcases hx with ⟨i, hi, h1⟩ | ⟨i, _, j, _, rfl⟩
  · exact CH_lt (h.ok i hi) (hY i) h1
  · exact pid_lt _

theorem all_dense {KN PN : Nat → Nat} {KX LL PX : Nat → Nat → Nat} {YY : Nat → Nat → Nat → Nat} (x : Nat) (F : Nat → Nat) : (UD 1 KN KX LL YY x ∨ UP 0 PN PX x) ↔ (CH (KN 0) (KX 0) (LL 0) (YY 0) x ∨ UI 0 F x) := by
  constructor
  · rintro (⟨i, hi, h⟩ | ⟨i, hi, _⟩)
    · rw [show i = 0 from by omega] at h
      exact Or.inl h
    · exact absurd hi (by omega)
  · rintro (h | ⟨j, hj, _⟩)
    · exact Or.inl ⟨0, by omega, h⟩
    · exact absurd hj (by omega)

theorem all_piece {KN PN : Nat → Nat} {KX LL PX : Nat → Nat → Nat} {YY : Nat → Nat → Nat → Nat} (x : Nat) (kx L : Nat → Nat) (Y : Nat → Nat → Nat) : (UD 0 KN KX LL YY x ∨ UP 1 PN PX x) ↔ (CH 0 kx L Y x ∨ UI (PN 0) (PX 0) x) := by
  constructor
  · rintro (⟨i, hi, _⟩ | ⟨i, hi, h⟩)
    · exact absurd hi (by omega)
    · rw [show i = 0 from by omega] at h
      exact Or.inr h
  · rintro (⟨i, hi, _⟩ | h)
    · exact absurd hi (by omega)
    · exact Or.inr ⟨0, by omega, h⟩
end Go.Proofs.Qxb6614184aMods.L
