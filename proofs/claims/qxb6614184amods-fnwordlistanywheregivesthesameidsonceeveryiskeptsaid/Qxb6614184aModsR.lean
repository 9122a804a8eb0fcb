/- A set as zzSetHolds takes it; what ZZanywhere gives of a list without and with a set of all. -/
import Derived.Test.Qxb6614184aModsM
namespace Go.Proofs.Qxb6614184aMods.L
open Go.RowKit

/-- The set value of these three fields holds just the ids of W, each once, and counts them. -/
def Ready (w : World) (ca : Option Addr) (n : Nat) (fa : Option Addr) (m fc : Nat) (N : Int) (W : Nat → Prop) : Prop :=
  ∃ (kx L F : Nat → Nat) (Y : Nat → Nat → Nat), (0 < n → ∃ g, ca = some ⟨g, 0, none⟩ ∧ Chunks w none g n kx L Y) ∧ Row w none (.slice fa m fc) m (U .u32 F) ∧ COK n kx L Y ∧ (∀ i j, Y i j < 65536) ∧ (∀ j, F j < 4294967296) ∧
    (∀ j j', j < j' → j' < m → pid (F j) ≠ pid (F j')) ∧ (n = 0 ∨ m = 0) ∧ m ≤ 4294967296 ∧ N = ((tot L n + m : Nat) : Int) ∧ ∀ x, W x ↔ (CH n kx L Y x ∨ UI m F x)

theorem Ready.kept0 {w w1 : World} {ca : Option Addr} {n : Nat} {fa : Option Addr} {m fc : Nat} {N : Int} {W : Nat → Prop} (h : Ready w ca n fa m fc N W) (hg : w.grownBy w1 none) : Ready w1 ca n fa m fc N W := by
  obtain ⟨kx, L, F, Y, h1, h2, h3⟩ := h
  exact ⟨kx, L, F, Y, fun h0 => by obtain ⟨g, e, hC⟩ := h1 h0; exact ⟨g, e, hC.kept0 hg⟩, h2.kept0 hg, h3⟩

theorem holds_ready {w : World} {ca : Option Addr} {n cc : Nat} {fa : Option Addr} {m fc : Nat} {N : Int} {W : Nat → Prop} {bw : Nat} (h : Ready w ca n fa m fc N W) (hW : Bits w bw W) :
    Calls Trym.prog 19 #[.agg #[.slice ca n cc, .slice fa m fc, .int .i64 N], .slice (some ⟨bw, 0, none⟩) 32768 32768] w fun e w' => e = .returned (.bool true) ∧ w.grownBy w' none := by
  obtain ⟨kx, L, F, Y, h1, h2, h3, h4, h5, h6, h7, h8, h9, h10⟩ := h
  rw [h9]
  have ht := h3.total h4
  have hc := h3.count
  exact setHolds_calls ca fa n cc m fc kx L F Y bw W w h1 h2 h3 h4 (fun i hi => by have := h3.length h4 hi; omega) h5 h6 h7 (by omega) (by omega) hW h10

/-- A slice of nothing shows nothing. -/
theorem row_nil (w : World) (f : Nat → Value) : Row w none (.slice none 0 0) 0 f := ⟨none, 0, rfl, by omega, by simp [maxLen], fun h => absurd h (by omega)⟩

/-- What ZZanywhere gives of a list without a set of all: its one place's ids, or nothing. -/
def First (w : World) (o : Bool) (one : Prop) (ca : Option Addr) (n cc : Nat) (fa : Option Addr) (m fc : Nat) (N : Int) (W : Nat → Prop) : Prop :=
  (o = false ∧ ¬ one ∧ ca = none ∧ n = 0 ∧ cc = 0 ∧ fa = none ∧ m = 0 ∧ fc = 0 ∧ N = 0) ∨ (o = true ∧ one ∧ Ready w ca n fa m fc N W)

theorem first_calls (p nd np : Nat) (DP KN LN PN : Nat → Nat) (KX LL PX : Nat → Nat → Nat) (YY : Nat → Nat → Nat → Nat) (pv : Value) (w : World)
    (h : ListAt w p nd KN KX LL YY pv none) (hp : Rows2 w none .u32 pv np PN PX) (hn : nd ≤ 1048576) (hD : DOK nd DP KN LN KX LL YY) (hP : POK np PN PX) (hY : ∀ i j t, YY i j t < 65536) (hPX : ∀ i j, PX i j < 4294967296) :
    Calls Trym.prog 16 #[.pointer (some ⟨p, 0, none⟩)] w fun e w' => ∃ o ca n cc fa m fc N, e = .returned (.tuple #[.agg #[.slice ca n cc, .slice fa m fc, .int .i64 N], .bool o]) ∧ w.grownBy w' none ∧
      First w o (One nd np PN PX) ca n cc fa m fc N (fun x => UD nd KN KX LL YY x ∨ UP np PN PX x) := by
  by_cases ho : One nd np PN PX
  · rcases ho with ⟨rfl, rfl⟩ | ⟨rfl, rfl, he⟩
    · -- one dense place
      obtain ⟨g, hd, hgl, hDn⟩ := h.dense
      obtain ⟨pp, b, hC, hK⟩ := hDn 0 (by omega)
      refine (zzAny_calls p _ _ _ _ _ _ _ true w (fun w0 hg => any_dense p g b (KN 0) pp (tot (LL 0) (KN 0) : Int) KN KX LL YY PN PX pv w0 (h.kept0 hg) (hp.kept0 hg) hPX (by rw [grown_cell hg (a := ⟨p, 4, none⟩) h.lt (by simp)]; exact hd) (Nat.lt_of_lt_of_le hgl hg.size) (hC.kept hg hgl (by simp)))).mono ?_
      rintro e w' ⟨he, hg⟩
      refine ⟨_, _, _, _, _, _, _, _, he, hg, Or.inr ⟨rfl, Or.inl ⟨rfl, rfl⟩, KX 0, LL 0, fun _ => 0, YY 0, fun _ => ⟨b, rfl, hK⟩, row_nil _ _, hD.ok 0 (by omega), hY 0, fun _ => (by show 0 < 4294967296; omega), fun _ _ _ h => absurd h (by omega), Or.inr rfl, by omega, (by rw [Nat.add_zero]), fun x => all_dense x _⟩⟩
    · -- one piece at one place
      have hp' := hp
      obtain ⟨V, ⟨a, c, rfl, hc, hm, hr⟩, hV⟩ := hp
      obtain ⟨b, off, rfl, hb, _, hcell⟩ := hr (by omega)
      have hR := hV 0 (by omega)
      obtain ⟨a', c', e', hc', hm', hr'⟩ := hR
      have hcell0 : w.cell? ⟨b, off, none⟩ = some (.slice a' (PN 0) c') := by rw [← e']; exact hcell 0 (by omega)
      refine (zzAny_calls p _ _ _ _ _ _ _ true w (fun w0 hg => any_piece p b off a' c c' KN KX LL YY PN PX w0 (h.kept0 hg) (hp'.kept0 hg) (hP.ne 0 (by omega)) hPX he (Nat.lt_of_lt_of_le hb hg.size) (by rw [grown_cell hg (a := ⟨b, off, none⟩) hb (by simp)]; exact hcell0))).mono ?_
      rintro e w' ⟨he', hg⟩
      have hlen := hP.length hPX (show 0 < 1 by omega)
      refine ⟨_, _, _, _, _, _, _, _, he', hg, Or.inr ⟨rfl, Or.inr ⟨rfl, rfl, he⟩, fun _ => 0, fun _ => 0, PX 0, fun _ _ => 0, fun h0 => absurd h0 (by omega), ?_, COK.zero _ _ _, fun _ _ => (by show 0 < 65536; omega), hPX 0, pid_apart (hP.inc 0 (by omega)) he, Or.inl rfl, hlen, ?_, fun x => all_piece x _ _ _⟩⟩
      · rw [← e']; exact hV 0 (by omega)
      · show ((PN 0 : Nat) : Int) = ((0 + PN 0 : Nat) : Int)
        rw [Nat.zero_add]
  · refine (zzAny_calls p _ _ _ _ _ _ _ false w (fun w0 hg => any_no p nd np KN KX LL YY PN PX pv w0 (h.kept0 hg) (hp.kept0 hg) hn hP.ne hPX ho)).mono ?_
    rintro e w' ⟨he, hg⟩
    exact ⟨_, _, _, _, _, _, _, _, he, hg, Or.inl ⟨rfl, ho, rfl, rfl, rfl, rfl, rfl, rfl, rfl⟩⟩

/-- What ZZanywhere gives of a list with a set of all: that set. -/
theorem second_calls (p nd q : Nat) (KN : Nat → Nat) (KX LL : Nat → Nat → Nat) (YY : Nat → Nat → Nat → Nat) (pv : Value) (a a' : Option Addr) (m c m' c' : Nat) (n : Int) (w : World)
    (h : ListAt w p nd KN KX LL YY pv (some ⟨q, 0, none⟩)) (hq : q < w.heap.size) (h0 : w.cell? ⟨q, 0, none⟩ = some (.slice a m c)) (h1 : w.cell? ⟨q, 1, none⟩ = some (.slice a' m' c')) (h2 : w.cell? ⟨q, 2, none⟩ = some (.int .i64 n)) :
    Calls Trym.prog 16 #[.pointer (some ⟨p, 0, none⟩)] w fun e w' => e = .returned (.tuple #[.agg #[.slice a m c, .slice a' m' c', .int .i64 n], .bool true]) ∧ w.grownBy w' none :=
  zzAny_calls p a a' m c m' c' n true w (fun w0 hg => any_every p nd KN KX LL YY pv q a a' m c m' c' n w0 (h.kept0 hg) (Nat.lt_of_lt_of_le hq hg.size)
    (by rw [grown_cell hg (a := ⟨q, 0, none⟩) hq (by simp)]; exact h0) (by rw [grown_cell hg (a := ⟨q, 1, none⟩) hq (by simp)]; exact h1) (by rw [grown_cell hg (a := ⟨q, 2, none⟩) hq (by simp)]; exact h2))

/-- The set that zzSetFromBits gives is ready. -/
theorem ready_bits {w : World} {g : Nat} {T : Nat → Bool} {S : Nat → Prop} (hT : ∀ x, T x = true ↔ S x) (hS : ∀ x, S x → x < 2097152) (hC : Chunks w none g (tn T) (tk T) (tl T) (ty T)) :
    Ready w (some ⟨g, 0, none⟩) (tn T) none 0 0 (tot (tl T) (tn T) : Int) S :=
  ⟨tk T, tl T, fun _ => 0, ty T, fun _ => ⟨g, rfl, hC⟩, row_nil _ _, tCOK T, ty_lt T, fun _ => (by show 0 < 4294967296; omega), fun _ _ _ h => absurd h (by omega), Or.inr rfl, by omega, (by rw [Nat.add_zero]), fun x => (tCH hT hS x).trans (iff_or_left (fun ⟨j, hj, _⟩ => absurd hj (by omega)))⟩
end Go.Proofs.Qxb6614184aMods.L
