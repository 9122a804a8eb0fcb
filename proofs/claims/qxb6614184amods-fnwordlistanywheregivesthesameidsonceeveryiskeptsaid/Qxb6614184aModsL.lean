/- Views of memory, frames, words of bits: no function of the program in sight. -/
import Derived.WalkKit
import Derived.Deep.Draws
import Derived.Laws.BitsAllLaws
namespace Go.Proofs.Qxb6614184aMods.L
open Go.RowKit

/-- A fact kept from the walk. -/
theorem hid {p : Prop} (h : p) : Hid p := h

/-! ### Frames: 'w.grownBy w' none': all that was there is as it was; 'some b': but for block b -/
theorem grown_refl (w : World) (r : Option Nat) : w.grownBy w r := ⟨rfl, rfl, rfl, Nat.le_refl _, fun _ _ _ => rfl⟩

theorem grown_trans {w w1 w2 : World} {r r' : Option Nat} (h : w.grownBy w1 r) (k : w1.grownBy w2 r') (hr : ∀ b, r' = some b → r = some b ∨ w.heap.size ≤ b) : w.grownBy w2 r :=
  ⟨k.os.trans h.os, k.tape.trans h.tape, k.output.trans h.output, Nat.le_trans h.size k.size, fun i hi hne =>
    (k.block i (Nat.lt_of_lt_of_le hi h.size) (fun e => by
      rcases hr i e.symm with h1 | h1
      · exact hne h1.symm
      · omega)).trans (h.block i hi hne)⟩

theorem grown_trans0 {w w1 w2 : World} {r : Option Nat} (h : w.grownBy w1 r) (k : w1.grownBy w2 none) : w.grownBy w2 r :=
  grown_trans h k (fun _ e => by cases e)

theorem grown_drewN {w w1 : World} {r : Option Nat} (h : w.grownBy w1 r) (n : Nat) : w.grownBy (w1.drewN n) r :=
  ⟨h.os, h.tape, h.output, h.size, h.block⟩

theorem grown_drew {w w1 : World} {r : Option Nat} (h : w.grownBy w1 r) : w.grownBy w1.drew r :=
  ⟨h.os, h.tape, h.output, h.size, h.block⟩

theorem grown_alloc {w w1 : World} {r : Option Nat} (h : w.grownBy w1 r) (o : Obj) : w.grownBy (w1.alloc o) r :=
  grown_trans h (World.grownBy_alloc w1 o none) (fun _ e => by cases e)

theorem grown_setCell (w : World) (a : Addr) (v : Value) : w.grownBy (w.setCell a v) (some a.block) :=
  ⟨rfl, rfl, rfl, by simp, fun k hk hne => Below.heap_setCell _ _ _ _ (fun e => hne (by rw [e]))⟩

theorem grown_set {w w1 : World} {r : Option Nat} (h : w.grownBy w1 r) (a : Addr) (v : Value) (hr : r = some a.block ∨ w.heap.size ≤ a.block) : w.grownBy (w1.setCell a v) r :=
  grown_trans h (grown_setCell w1 a v) (fun b e => by cases e; exact hr)

theorem grown_below {w w1 : World} (h : w.grownBy w1 none) : Below w.heap.size w w1 :=
  ⟨h.os, h.tape, h.output, h.size, fun k hk => h.block k hk (by simp)⟩

/-- A cell of an old block that is not the one written. -/
theorem grown_cell {w w1 : World} {r : Option Nat} (h : w.grownBy w1 r) {a : Addr} (ha : a.block < w.heap.size) (hne : r ≠ some a.block) : w1.cell? a = w.cell? a :=
  World.cell?_of_block (h.block _ ha (fun e => hne e.symm))

theorem grown_frozen {w w1 : World} {r : Option Nat} (h : w.grownBy w1 r) {a : Addr} (ha : a.block < w.heap.size) (hne : r ≠ some a.block) : w1.frozen? a = w.frozen? a :=
  World.frozen?_of_block (h.block _ ha (fun e => hne e.symm))

/-! ### Rows: the slice value v shows n cells; the i-th holds f i -/
def Row (w : World) (r : Option Nat) (v : Value) (n : Nat) (f : Nat → Value) : Prop :=
  ∃ a c, v = .slice a n c ∧ n ≤ c ∧ c ≤ maxLen ∧ (0 < n → ∃ b off, a = some ⟨b, off, none⟩ ∧ b < w.heap.size ∧ r ≠ some b ∧ ∀ i, i < n → w.cell? ⟨b, off + i, none⟩ = some (f i))

/-- A row outside block r stays while block r alone is written. -/
theorem Row.kept {w w1 : World} {r : Option Nat} {v : Value} {n : Nat} {f : Nat → Value} (h : Row w r v n f) (hg : w.grownBy w1 r) : Row w1 r v n f := by
  obtain ⟨a, c, hv, h1, h2, h3⟩ := h
  refine ⟨a, c, hv, h1, h2, fun hn => ?_⟩
  obtain ⟨b, off, ha, hb, hr, hc⟩ := h3 hn
  exact ⟨b, off, ha, Nat.lt_of_lt_of_le hb hg.size, hr, fun i hi => by rw [grown_cell hg (a := ⟨b, off + i, none⟩) hb hr]; exact hc i hi⟩

theorem Row.kept0 {w w1 : World} {r : Option Nat} {v : Value} {n : Nat} {f : Nat → Value} (h : Row w r v n f) (hg : w.grownBy w1 none) : Row w1 r v n f := by
  obtain ⟨a, c, hv, h1, h2, h3⟩ := h
  refine ⟨a, c, hv, h1, h2, fun hn => ?_⟩
  obtain ⟨b, off, ha, hb, hr, hc⟩ := h3 hn
  exact ⟨b, off, ha, Nat.lt_of_lt_of_le hb hg.size, hr, fun i hi => by rw [grown_cell hg (a := ⟨b, off + i, none⟩) hb (by simp)]; exact hc i hi⟩

/-- Behind any call that keeps what was there, a row of the start is outside a block of the call's own. -/
theorem Row.away {w : World} {r : Option Nat} {v : Value} {n : Nat} {f : Nat → Value} (h : Row w r v n f) (g : Nat) (hg : w.heap.size ≤ g) : Row w (some g) v n f := by
  obtain ⟨a, c, hv, h1, h2, h3⟩ := h
  refine ⟨a, c, hv, h1, h2, fun hn => ?_⟩
  obtain ⟨b, off, ha, hb, hr, hc⟩ := h3 hn
  exact ⟨b, off, ha, hb, by simp; omega, hc⟩

theorem Row.any {w : World} {r : Option Nat} {v : Value} {n : Nat} {f : Nat → Value} (h : Row w r v n f) : Row w none v n f := by
  obtain ⟨a, c, hv, h1, h2, h3⟩ := h
  refine ⟨a, c, hv, h1, h2, fun hn => ?_⟩
  obtain ⟨b, off, ha, hb, hr, hc⟩ := h3 hn
  exact ⟨b, off, ha, hb, by simp, hc⟩

/-- A row of unsigned numbers. -/
def U (k : IntKind) (x : Nat → Nat) (i : Nat) : Value := .int k (x i : Int)

/-- Rows of rows: the i-th inner row, of length L i, holds Y i. -/
def Rows2 (w : World) (r : Option Nat) (k : IntKind) (v : Value) (n : Nat) (L : Nat → Nat) (Y : Nat → Nat → Nat) : Prop :=
  ∃ V : Nat → Value, Row w r v n V ∧ ∀ i, i < n → Row w r (V i) (L i) (U k (Y i))

theorem Rows2.kept {w w1 : World} {r : Option Nat} {k : IntKind} {v : Value} {n : Nat} {L : Nat → Nat} {Y : Nat → Nat → Nat} (h : Rows2 w r k v n L Y) (hg : w.grownBy w1 r) : Rows2 w1 r k v n L Y := by
  obtain ⟨V, h1, h2⟩ := h
  exact ⟨V, h1.kept hg, fun i hi => (h2 i hi).kept hg⟩

theorem Rows2.kept0 {w w1 : World} {r : Option Nat} {k : IntKind} {v : Value} {n : Nat} {L : Nat → Nat} {Y : Nat → Nat → Nat} (h : Rows2 w r k v n L Y) (hg : w.grownBy w1 none) : Rows2 w1 r k v n L Y := by
  obtain ⟨V, h1, h2⟩ := h
  exact ⟨V, h1.kept0 hg, fun i hi => (h2 i hi).kept0 hg⟩

theorem Rows2.away {w : World} {r : Option Nat} {k : IntKind} {v : Value} {n : Nat} {L : Nat → Nat} {Y : Nat → Nat → Nat} (h : Rows2 w r k v n L Y) (g : Nat) (hg : w.heap.size ≤ g) : Rows2 w (some g) k v n L Y := by
  obtain ⟨V, h1, h2⟩ := h
  exact ⟨V, h1.away g hg, fun i hi => (h2 i hi).away g hg⟩

/-- Rows of rows of rows. -/
def Rows3 (w : World) (r : Option Nat) (k : IntKind) (v : Value) (n : Nat) (N : Nat → Nat) (L : Nat → Nat → Nat) (Y : Nat → Nat → Nat → Nat) : Prop :=
  ∃ V : Nat → Value, Row w r v n V ∧ ∀ i, i < n → Rows2 w r k (V i) (N i) (L i) (Y i)

theorem Rows3.kept0 {w w1 : World} {r : Option Nat} {k : IntKind} {v : Value} {n : Nat} {N : Nat → Nat} {L : Nat → Nat → Nat} {Y : Nat → Nat → Nat → Nat} (h : Rows3 w r k v n N L Y) (hg : w.grownBy w1 none) : Rows3 w1 r k v n N L Y := by
  obtain ⟨V, h1, h2⟩ := h
  exact ⟨V, h1.kept0 hg, fun i hi => (h2 i hi).kept0 hg⟩

theorem iff_or_left {p q : Prop} (h : ¬ q) : p ↔ (p ∨ q) := by
  constructor
  · exact Or.inl
  · rintro (k | k)
    · exact k
    · exact absurd k h

/-! ### Sets of ids as words of bits -/
/-- Block b holds the set S: bit t of word j says whether 64 j + t is in it. -/
def Bits (w : World) (b : Nat) (S : Nat → Prop) : Prop :=
  b < w.heap.size ∧ ∀ j, j < 32768 → w.frozen? ⟨b, j, none⟩ = false ∧ ∃ q : Nat, w.cell? ⟨b, j, none⟩ = some (.int .u64 (q : Int)) ∧ q < 18446744073709551616 ∧ ∀ t, t < 64 → (q.testBit t = true ↔ S (64 * j + t))

def mark (S : Nat → Prop) (x : Nat) : Nat → Prop := fun y => S y ∨ y = x

theorem Bits.kept {w w1 : World} {b : Nat} {S : Nat → Prop} {r : Option Nat} (h : Bits w b S) (hg : w.grownBy w1 r) (hr : r ≠ some b) : Bits w1 b S := by
  refine ⟨Nat.lt_of_lt_of_le h.1 hg.size, fun j hj => ?_⟩
  obtain ⟨hf, q, hc, hq, ht⟩ := h.2 j hj
  refine ⟨?_, q, ?_, hq, ht⟩
  · rw [grown_frozen hg (a := ⟨b, j, none⟩) h.1 hr]; exact hf
  · rw [grown_cell hg (a := ⟨b, j, none⟩) h.1 hr]; exact hc

theorem Bits.congr {w : World} {b : Nat} {S T : Nat → Prop} (h : Bits w b S) (e : ∀ x, S x ↔ T x) : Bits w b T :=
  ⟨h.1, fun j hj => by
    obtain ⟨hf, q, hc, hq, ht⟩ := h.2 j hj
    exact ⟨hf, q, hc, hq, fun t htt => (ht t htt).trans (e _)⟩⟩

/-- 2 to the n, kept whole. -/
def pw (n : Nat) : Nat := 2 ^ n
/-- The bit n of q, and what is above. -/
def dv (q n : Nat) : Nat := q / 2 ^ n

theorem pw_lt (n : Nat) (h : n < 64) : pw n < 18446744073709551616 := by
  have : 2 ^ n < 2 ^ 64 := Nat.pow_lt_pow_right (by omega) h
  simpa [pw] using this

theorem wrap_pw (n : Nat) (h : n < 64) : IntKind.u64.wrap (2 ^ n) = (pw n : Int) := by
  have h3 := pw_lt n h
  rw [IntKind.wrap_u64]
  have e : ((2 : Int) ^ n) = (pw n : Int) := by unfold pw; exact (Int.natCast_pow 2 n).symm
  rw [e]
  omega

theorem and63 (x : Nat) (h : x < 4294967296) : bits BinOp.and IntKind.u32 (x : Int) 63 = ((x % 64 : Nat) : Int) := by
  have := u32_and_nat x 63 h (by omega)
  rw [nat_mask6] at this
  exact this

theorem andMask (x : Nat) (h : x < 4294967296) : bits BinOp.and IntKind.u32 (x : Int) 2097151 = ((x % 2097152 : Nat) : Int) := by
  have := u32_and_nat x 2097151 h (by omega)
  rw [show (2097151 : Nat) = 2 ^ 21 - 1 from rfl, Nat.and_two_pow_sub_one_eq_mod] at this
  exact this

/-- The id of an entry of a piece. -/
def pid (e : Nat) : Nat := e % 2097152

theorem pid_lt (e : Nat) : pid e < 2097152 := Nat.mod_lt _ (by omega)

theorem and_pid (x : Nat) (h : x < 4294967296) : bits BinOp.and IntKind.u32 (x : Int) 2097151 = (pid x : Int) := andMask x h

theorem and1 (q : Nat) (h : q < 18446744073709551616) : bits BinOp.and IntKind.u64 (q : Int) 1 = ((q % 2 : Nat) : Int) := by
  have := u64_and_nat q 1 h (by omega)
  rw [nat_mask1] at this
  exact this

/-- The word behind a mark. -/
def orw (q n : Nat) : Nat := q ||| pw n

theorem or_pw (q n : Nat) (hq : q < 18446744073709551616) (hn : n < 64) : bits BinOp.or IntKind.u64 (q : Int) (pw n : Int) = (orw q n : Int) :=
  u64_or_nat q (pw n) hq (pw_lt n hn)

theorem or_wrap (q n : Nat) (hq : q < 18446744073709551616) (hn : n < 64) : bits BinOp.or IntKind.u64 (q : Int) (IntKind.u64.wrap (2 ^ n)) = (orw q n : Int) := by
  rw [wrap_pw n hn]
  exact or_pw q n hq hn

theorem orw_lt (q n : Nat) (hq : q < 18446744073709551616) (hn : n < 64) : orw q n < 18446744073709551616 := by
  unfold orw
  exact Nat.or_lt_two_pow (n := 64) hq (pw_lt n hn)

theorem orw_bit (q n t : Nat) : (orw q n).testBit t = true ↔ (q.testBit t = true ∨ t = n) := by
  unfold orw pw
  rw [Nat.testBit_or, Nat.testBit_two_pow, Bool.or_eq_true, decide_eq_true_iff]
  constructor
  · rintro (h | h)
    · exact Or.inl h
    · exact Or.inr h.symm
  · rintro (h | h)
    · exact Or.inl h
    · exact Or.inr h.symm

theorem dv_bit (q n : Nat) : ((dv q n % 2 : Nat) == 1) = q.testBit n := by
  rw [Nat.testBit_eq_decide_div_mod_eq]
  unfold dv
  rw [Bool.eq_iff_iff, beq_iff_eq, decide_eq_true_iff]

theorem bit_test (q n : Nat) (hq : q < 18446744073709551616) : (bits BinOp.and IntKind.u64 ((q : Int) / 2 ^ n) 1 == 1) = q.testBit n := by
  have e : ((q : Int) / 2 ^ n) = (dv q n : Int) := by
    unfold dv
    rw [show ((2 : Int) ^ n) = ((2 ^ n : Nat) : Int) from (Int.natCast_pow 2 n).symm]
    exact (Int.natCast_ediv q (2 ^ n)).symm
  have h : dv q n < 18446744073709551616 := Nat.lt_of_le_of_lt (Nat.div_le_self _ _) hq
  rw [e, and1 _ h, ← dv_bit q n, Bool.eq_iff_iff, beq_iff_eq, beq_iff_eq]
  omega

theorem dv_lt (q n : Nat) (hq : q < 18446744073709551616) : dv q n < 18446744073709551616 :=
  Nat.lt_of_le_of_lt (Nat.div_le_self _ _) hq

/-- One word written: the set with one more id. -/
theorem Bits.mark {w : World} {b : Nat} {S : Nat → Prop} (h : Bits w b S) (x : Nat) (_hx : x < 2097152) (q : Nat) (hc : w.cell? ⟨b, x / 64, none⟩ = some (.int .u64 (q : Int))) (hq : q < 18446744073709551616) :
    Bits (w.setCell ⟨b, x / 64, none⟩ (.int .u64 (orw q (x % 64) : Int))) b (mark S x) := by
  refine ⟨by simpa using h.1, fun j hj => ?_⟩
  obtain ⟨hf, q', hc', hq', ht⟩ := h.2 j hj
  refine ⟨by simpa using hf, ?_⟩
  by_cases e : j = x / 64
  · subst e
    have eq : q = q' := by
      rw [hc] at hc'
      have h1 := Option.some.inj hc'
      have h2 : (q : Int) = (q' : Int) := by simpa using h1
      omega
    subst eq
    refine ⟨_, World.cell?_setCell_same _ _ _ hc, orw_lt q _ hq (by omega), fun t htt => ?_⟩
    rw [orw_bit, ht t htt]
    unfold L.mark
    constructor
    · rintro (h1 | h1)
      · exact Or.inl h1
      · exact Or.inr (by omega)
    · rintro (h1 | h1)
      · exact Or.inl h1
      · exact Or.inr (by omega)
  · refine ⟨q', ?_, hq', fun t htt => ?_⟩
    · rw [World.cell?_setCell_other _ _ _ _ (by intro e'; apply e; simpa using (congrArg Addr.off e').symm)]; exact hc'
    · rw [ht t htt]
      unfold L.mark
      constructor
      · exact Or.inl
      · rintro (h1 | h1)
        · exact h1
        · omega

end Go.Proofs.Qxb6614184aMods.L
