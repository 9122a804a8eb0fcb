/- zzMarkChunks, zzwlUnion. -/
import Derived.Test.Qxb6614184aModsW2
import Derived.Deep.RegionWith
import Derived.Deep.OwnRows
namespace Go.Proofs.Qxb6614184aMods.L
open Go.RowKit

theorem info22 : (Trym.prog.info? 22).map (fun i => (i.zero, i.size, i.bytes)) = some (some (.int .u64 0), 1, 8) := by kernel_rfl
theorem info4 : (Trym.prog.info? 4).map (fun i => (i.zero, i.size, i.bytes)) = some (some (.bool false), 1, 1) := by kernel_rfl
theorem made_get (z : Value) (n j : Nat) (h : j < n) : (madeCells #[z] n)[j]? = some z := by
  unfold madeCells
  rw [Array.getElem?_map, Array.getElem?_range]
  simp [h, Nat.mod_one]
theorem new_cell (w : World) (z : Value) (n j : Nat) (e : TypeId) (h : j < n) : (w.alloc (.cells (madeCells #[z] n) e)).cell? ⟨w.heap.size, j, none⟩ = some z := by
  have e1 : (w.alloc (.cells (madeCells #[z] n) e)).heap[w.heap.size]? = some (.cells (madeCells #[z] n) e) := by
    show (w.heap.push _)[w.heap.size]? = _
    simp
  unfold World.cell?
  rw [e1]
  simpa using made_get z n j h
theorem new_frozen (w : World) (c : Array Value) (j : Nat) (e : TypeId) : (w.alloc (.cells c e)).frozen? ⟨w.heap.size, j, none⟩ = false := by
  have e1 : (w.alloc (.cells c e)).heap[w.heap.size]? = some (.cells c e) := by
    show (w.heap.push _)[w.heap.size]? = _
    simp
  unfold World.frozen?
  rw [e1]
  simp
theorem make_bits (w : World) : ∃ w', (Instr.makeSlice 31 (.int .i64 32768) (.int .i64 32768)).run Trym.prog w = .ok (.slice (some ⟨w.heap.size, 0, none⟩) 32768 32768) w' ∧ Bits w' w.heap.size (fun _ => False) ∧ w.grownBy w' none :=
  ⟨_, run_make_row' (P := Trym.prog) 31 22 (.int .u64 0) 8 Trym.underlying31 info22 rfl .i64 .i64 32768 (by omega) (by omega) w, ⟨by simp, fun j hj => ⟨new_frozen w _ j 22, 0, new_cell w _ 32768 j 22 hj, by omega, fun t _ => by simp⟩⟩, World.grownBy_alloc _ _ _⟩

/-- The id of the low bits y in the chunk k. -/
def cid (k y : Nat) : Nat := k * 65536 + y

/-- x is an id of the first n chunks. -/
def CH (n : Nat) (kx L : Nat → Nat) (Y : Nat → Nat → Nat) (x : Nat) : Prop := ∃ i, i < n ∧ ∃ j, j < L i ∧ x = cid (kx i) (Y i j)
/-- x is one of the first m ids of chunk k. -/
def CI (k m : Nat) (y : Nat → Nat) (x : Nat) : Prop := ∃ j, j < m ∧ x = cid k (y j)

theorem CH_step {k : Nat} {kx L : Nat → Nat} {Y : Nat → Nat → Nat} {x : Nat} : CH (k + 1) kx L Y x ↔ (CH k kx L Y x ∨ CI (kx k) (L k) (Y k) x) := by
  constructor
  · rintro ⟨i, hi, j, hj, rfl⟩
    by_cases e : i = k
    · subst e; exact Or.inr ⟨j, hj, rfl⟩
    · exact Or.inl ⟨i, by omega, j, hj, rfl⟩
  · rintro (⟨i, hi, j, hj, rfl⟩ | ⟨j, hj, rfl⟩)
    · exact ⟨i, by omega, j, hj, rfl⟩
    · exact ⟨k, by omega, j, hj, rfl⟩

theorem cid_lt {k y : Nat} (hk : k < 32) (hy : y < 65536) : cid k y < 2097152 := by unfold cid; omega

theorem cid_or (k y : Nat) (hk : k < 32) (hy : y < 65536) : bits BinOp.or IntKind.u32 (IntKind.u32.wrap ((k : Int) * 65536)) (IntKind.u32.wrap (y : Int)) = (cid k y : Int) := by
  rw [IntKind.wrap_u32', IntKind.wrap_u32']
  have e1 : ((k : Int) * 65536) % 4294967296 = ((k * 65536 : Nat) : Int) := by omega
  have e2 : (y : Int) % 4294967296 = (y : Int) := by omega
  rw [e1, e2, u32_or_nat _ _ (by omega) (by omega), nat_join 16 (k * 65536) y (by omega) (by omega)]
  rfl

theorem CI_step {k m : Nat} {y : Nat → Nat} {x : Nat} : CI k (m + 1) y x ↔ (CI k m y x ∨ x = cid k (y m)) := by
  constructor
  · rintro ⟨j, hj, rfl⟩
    by_cases e : j = m
    · subst e; exact Or.inr rfl
    · exact Or.inl ⟨j, by omega, rfl⟩
  · rintro (⟨j, hj, rfl⟩ | rfl)
    · exact ⟨j, by omega, rfl⟩
    · exact ⟨m, by omega, rfl⟩

set_option maxHeartbeats 1000000 in
theorem markChunks_calls (b : Nat) (kv lv : Value) (n : Nat) (kx L : Nat → Nat) (Y : Nat → Nat → Nat) (S : Nat → Prop) (w : World) (hB : Bits w b S)
    (hk : Row w (some b) kv n (U .u32 kx)) (hl : Rows2 w (some b) .u16 lv n L Y) (hkx : ∀ i, i < n → kx i < 32) (hY : ∀ i j, Y i j < 65536) :
    Calls Trym.prog 24 #[.slice (some ⟨b, 0, none⟩) 32768 32768, kv, lv] w fun e w' => e = .returned (.tuple #[]) ∧ w.grownBy w' (some b) ∧ Bits w' b (fun x => S x ∨ CH n kx L Y x) := by
  obtain ⟨a1, c1, rfl, hc1, hm1, hr1⟩ := hk
  obtain ⟨V, ⟨a2, c2, rfl, hc2, hm2, hr2⟩, hV⟩ := hl
  unfold maxLen at hm1 hm2
  by_cases hn : n = 0
  · subst hn
    have HB : Hid (Bits w b S) := hB
    clear hB
    go_enter Trym.func24, Trym.ntmps24
    go_wp2
    go_loopw [6] (fun i wr => i = .int .i64 0 ∧ wr = w) (fun i _ => 0)
    case atStart => exact ⟨rfl, rfl⟩
    case round =>
      obtain ⟨rfl, rfl⟩ := hrel
      go_wp2
      go_end0
      exact ⟨rfl, grown_refl _ _, HB.out.congr fun x => iff_or_left (fun ⟨i, hi, _⟩ => absurd hi (by omega))⟩
  · obtain ⟨b1, o1, rfl, hb1, hn1, hcell1⟩ := hr1 (by omega)
    obtain ⟨b2, o2, rfl, hb2, hn2, hcell2⟩ := hr2 (by omega)
    have HV : Hid (∀ i, i < n → Row w (some b) (V i) (L i) (U .u16 (Y i))) := hV
    have H1 : Hid (∀ i, i < n → w.cell? ⟨b1, o1 + i, none⟩ = some (U .u32 kx i)) := hcell1
    have H2 : Hid (∀ i, i < n → w.cell? ⟨b2, o2 + i, none⟩ = some (V i)) := hcell2
    have HKX : Hid (∀ i, i < n → kx i < 32) := hkx
    have HY : Hid (∀ i j, Y i j < 65536) := hY
    clear hr1 hr2 hcell1 hcell2 hV hkx hY
    have HB : Hid (Bits w b S) := hB
    clear hB
    have N1 : Hid (some b ≠ some b1) := hn1
    have N2 : Hid (some b ≠ some b2) := hn2
    clear hn1 hn2
    go_enter Trym.func24, Trym.ntmps24
    go_wp2
    go_loopw [6] (fun i wr => ∃ k : Nat, k ≤ n ∧ i = .int .i64 k ∧ w.grownBy wr (some b) ∧ Bits wr b (fun x => S x ∨ CH k kx L Y x)) (fun i _ => n - (intOf i).toNat)
    case atStart => exact ⟨0, by omega, rfl, grown_refl _ _, HB.out.congr fun x => iff_or_left (fun ⟨i, hi, _⟩ => absurd hi (by omega))⟩
    case round =>
      obtain ⟨k, hk, rfl, hg0, hB0⟩ := hrel
      have HG : Hid (w.grownBy wr (some b)) := hg0
      have HB' : Hid (Bits wr b (fun x => S x ∨ CH k kx L Y x)) := hB0
      clear hg0 hB0
      by_cases hlt : k < n
      · have g1 : wr.cell? ⟨b1, o1 + k, none⟩ = some (.int .u32 (kx k : Int)) := by rw [grown_cell HG.out (a := ⟨b1, o1 + k, none⟩) hb1 N1.out]; exact H1.out k hlt
        obtain ⟨a3, c3, e3, hc3, hm3, hr3⟩ := HV.out k hlt
        have g2 : wr.cell? ⟨b2, o2 + k, none⟩ = some (.slice a3 (L k) c3) := by rw [grown_cell HG.out (a := ⟨b2, o2 + k, none⟩) hb2 N2.out, H2.out k hlt, e3]
        unfold maxLen at hm3
        clear e3
        have k32 := HKX.out k hlt
        have H4 : Hid (0 < L k → ∃ b3 off, a3 = some ⟨b3, off, none⟩ ∧ b3 < w.heap.size ∧ some b ≠ some b3 ∧ ∀ i, i < L k → w.cell? ⟨b3, off + i, none⟩ = some (U .u16 (Y k) i)) := hr3
        clear hr3
        go_wp2
        go_loopw [8] (fun i wr => ∃ j : Nat, j ≤ L k ∧ i = .int .i64 j ∧ w.grownBy wr (some b) ∧ Bits wr b (fun x => (S x ∨ CH k kx L Y x) ∨ CI (kx k) j (Y k) x)) (fun i _ => L k - (intOf i).toNat)
        case atStart => exact ⟨0, by omega, rfl, HG.out, HB'.out.congr fun x => iff_or_left (fun ⟨i, hi, _⟩ => absurd hi (by omega))⟩
        case round =>
          clear g1 g2 HG HB'
          obtain ⟨j, hj, rfl, hg0, hB0⟩ := hrel
          have HG : Hid (w.grownBy wr (some b)) := hg0
          have HB' : Hid (Bits wr b (fun x => (S x ∨ CH k kx L Y x) ∨ CI (kx k) j (Y k) x)) := hB0
          clear hg0 hB0
          by_cases hjl : j < L k
          · obtain ⟨b3, o3, rfl, hb3, hn3, hcell3⟩ := H4.out (by omega)
            have g3 : wr.cell? ⟨b3, o3 + j, none⟩ = some (.int .u16 (Y k j : Int)) := by rw [grown_cell HG.out (a := ⟨b3, o3 + j, none⟩) hb3 hn3]; exact hcell3 j hjl
            have g1 : wr.cell? ⟨b1, o1 + k, none⟩ = some (.int .u32 (kx k : Int)) := by rw [grown_cell HG.out (a := ⟨b1, o1 + k, none⟩) hb1 N1.out]; exact H1.out k hlt
            clear hcell3 hn3 H4
            have ec := cid_or (kx k) (Y k j) k32 (HY.out k j)
            go_wp2
            go_region_with (go_at_call 25; refine (mark_calls b (cid (kx k) (Y k j)) (cid_lt k32 (HY.out k j)) (fun x => (S x ∨ CH k kx L Y x) ∨ CI (kx k) j (Y k) x) _ ?_).mono ?_; exact HB'.out.kept (grown_drew (grown_refl _ none)) (by simp); rintro e w1 ⟨rfl, hB1, hg1⟩)
            all_goals
              have HG1 : Hid (w.grownBy w1 (some b)) := grown_trans (grown_drew HG.out) hg1 (fun _ e => Or.inl e)
              have HB1 : Hid (Bits w1 b _) := hB1
              clear hB1 hg1
              go_wp2
              go_roundw
              case rel => exact ⟨j + 1, by omega, by go_num, HG1.out, HB1.out.congr fun x => by unfold mark; rw [CI_step]; exact or_assoc⟩
              case measure => simp [intOf]; omega
          · go_wp2
            go_roundw
            case rel => exact ⟨k + 1, by omega, by go_num, HG.out, HB'.out.congr fun x => by rw [CH_step, show j = L k from by omega]; exact or_assoc⟩
            case measure => simp [intOf]; omega
      · go_wp2
        go_end0
        exact ⟨rfl, HG.out, by rw [show n = k from by omega]; exact HB'.out⟩

/-- x is an id of one of the first n dense places. -/
def UD (n : Nat) (KN : Nat → Nat) (KX LL : Nat → Nat → Nat) (YY : Nat → Nat → Nat → Nat) (x : Nat) : Prop := ∃ i, i < n ∧ CH (KN i) (KX i) (LL i) (YY i) x
/-- x is an id of one of the first n pieces. -/
def UP (n : Nat) (PN : Nat → Nat) (PX : Nat → Nat → Nat) (x : Nat) : Prop := ∃ i, i < n ∧ ∃ j, j < PN i ∧ x = pid (PX i j)
/-- x is one of the first m ids of a piece. -/
def UI (m : Nat) (p : Nat → Nat) (x : Nat) : Prop := ∃ j, j < m ∧ x = pid (p j)

theorem UD_step {n : Nat} {KN : Nat → Nat} {KX LL : Nat → Nat → Nat} {YY : Nat → Nat → Nat → Nat} {x : Nat} : UD (n + 1) KN KX LL YY x ↔ (UD n KN KX LL YY x ∨ CH (KN n) (KX n) (LL n) (YY n) x) := by
  constructor
  · rintro ⟨i, hi, h⟩
    by_cases e : i = n
    · subst e; exact Or.inr h
    · exact Or.inl ⟨i, by omega, h⟩
  · rintro (⟨i, hi, h⟩ | h)
    · exact ⟨i, by omega, h⟩
    · exact ⟨n, by omega, h⟩

theorem UP_step {n : Nat} {PN : Nat → Nat} {PX : Nat → Nat → Nat} {x : Nat} : UP (n + 1) PN PX x ↔ (UP n PN PX x ∨ UI (PN n) (PX n) x) := by
  constructor
  · rintro ⟨i, hi, h⟩
    by_cases e : i = n
    · subst e; exact Or.inr h
    · exact Or.inl ⟨i, by omega, h⟩
  · rintro (⟨i, hi, h⟩ | h)
    · exact ⟨i, by omega, h⟩
    · exact ⟨n, by omega, h⟩

theorem UI_step {m : Nat} {p : Nat → Nat} {x : Nat} : UI (m + 1) p x ↔ (UI m p x ∨ x = pid (p m)) := by
  constructor
  · rintro ⟨i, hi, h⟩
    by_cases e : i = m
    · subst e; exact Or.inr h
    · exact Or.inl ⟨i, by omega, h⟩
  · rintro (⟨i, hi, h⟩ | h)
    · exact ⟨i, by omega, h⟩
    · exact ⟨m, by omega, h⟩

set_option maxHeartbeats 2000000 in
theorem union_calls (dkv dlv pv : Value) (nd np : Nat) (KN PN : Nat → Nat) (KX LL PX : Nat → Nat → Nat) (YY : Nat → Nat → Nat → Nat) (w : World)
    (hk : Rows2 w none .u32 dkv nd KN KX) (hl : Rows3 w none .u16 dlv nd KN LL YY) (hp : Rows2 w none .u32 pv np PN PX)
    (hkx : ∀ i, i < nd → ∀ j, j < KN i → KX i j < 32) (hY : ∀ i j t, YY i j t < 65536) (hPX : ∀ i j, PX i j < 4294967296) :
    Calls Trym.prog 9 #[dkv, dlv, pv] w fun e w' => e = .returned (.slice (some ⟨w.heap.size, 0, none⟩) 32768 32768) ∧ w.grownBy w' none ∧ Bits w' w.heap.size (fun x => UD nd KN KX LL YY x ∨ UP np PN PX x) := by
  obtain ⟨V1, ⟨a1, c1, rfl, hc1, hm1, hr1⟩, hV1⟩ := hk
  obtain ⟨V2, ⟨a2, c2, rfl, hc2, hm2, hr2⟩, hV2⟩ := hl
  obtain ⟨V3, ⟨a3, c3, rfl, hc3, hm3, hr3⟩, hV3⟩ := hp
  unfold maxLen at hm1 hm2 hm3
  have HV1 := hid hV1
  have HV2 := hid hV2
  have HV3 := hid hV3
  have HR1 := hid hr1
  have HR2 := hid hr2
  have HR3 := hid hr3
  have HKX := hid hkx
  have HY := hid hY
  have HPX := hid hPX
  clear hV1 hV2 hV3 hr1 hr2 hr3 hkx hY hPX
  obtain ⟨w1, hmk, hB1, hg1⟩ := make_bits w
  have HB1 := hid hB1
  have HG1 := hid hg1
  clear hB1 hg1
  go_enter Trym.func9, Trym.ntmps9
  go_wp2
  go_loopw [8] (fun i wr => ∃ k : Nat, k ≤ nd ∧ i = .int .i64 k ∧ w.grownBy wr none ∧ Bits wr w.heap.size (UD k KN KX LL YY)) (fun i _ => nd - (intOf i).toNat)
  case atStart => exact ⟨0, by omega, rfl, HG1.out, HB1.out.congr fun x => ⟨fun h => absurd h (by simp), fun ⟨i, hi, _⟩ => absurd hi (by omega)⟩⟩
  case round =>
    obtain ⟨k, hk, rfl, hg0, hB0⟩ := hrel
    have HG : Hid (w.grownBy wr none) := hg0
    have HB : Hid (Bits wr w.heap.size (UD k KN KX LL YY)) := hB0
    clear hg0 hB0 hmk HB1 HG1
    by_cases hlt : k < nd
    · obtain ⟨b1, o1, rfl, hb1, _, hcell1⟩ := HR1.out (by omega)
      obtain ⟨b2, o2, rfl, hb2, _, hcell2⟩ := HR2.out (by omega)
      have g1 : wr.cell? ⟨b1, o1 + k, none⟩ = some (V1 k) := by rw [grown_cell HG.out (a := ⟨b1, o1 + k, none⟩) hb1 (by simp)]; exact hcell1 k hlt
      have g2 : wr.cell? ⟨b2, o2 + k, none⟩ = some (V2 k) := by rw [grown_cell HG.out (a := ⟨b2, o2 + k, none⟩) hb2 (by simp)]; exact hcell2 k hlt
      clear hcell1 hcell2
      go_wp2
      go_region_with (go_at_call 24; refine (markChunks_calls w.heap.size (V1 k) (V2 k) (KN k) (KX k) (LL k) (YY k) (UD k KN KX LL YY) _ ?_ ?_ ?_ (HKX.out k hlt) (HY.out k)).mono ?_; exact HB.out.kept (grown_drew (grown_refl _ none)) (by simp); exact ((HV1.out k hlt).away _ (Nat.le_refl _)).kept0 (grown_drew HG.out); exact ((HV2.out k hlt).away _ (Nat.le_refl _)).kept0 (grown_drew HG.out); rintro e w1 ⟨rfl, hg1, hB1⟩)
      all_goals
        have HG2 := hid (grown_trans (grown_drew HG.out) hg1 (fun b e => Or.inr (by cases e; exact Nat.le_refl _)))
        have HB2 := hid hB1
        clear hB1 hg1
        go_wp2
        go_roundw
        case rel => exact ⟨k + 1, by omega, by go_num, HG2.out, HB2.out.congr fun x => by rw [UD_step]⟩
        case measure => simp [intOf]; omega
    · have e0 : k = nd := by omega
      have HB0 : Hid (Bits wr w.heap.size (UD nd KN KX LL YY)) := by rw [← e0]; exact HB.out
      clear e0 HB
      go_wp2
      go_loopw [9] (fun i wr => ∃ k : Nat, k ≤ np ∧ i = .int .i64 k ∧ w.grownBy wr none ∧ Bits wr w.heap.size (fun x => UD nd KN KX LL YY x ∨ UP k PN PX x)) (fun i _ => np - (intOf i).toNat)
      case atStart => exact ⟨0, by omega, rfl, HG.out, HB0.out.congr fun x => iff_or_left (fun ⟨i, hi, _⟩ => absurd hi (by omega))⟩
      case round =>
        obtain ⟨k, hk, rfl, hg0, hB0⟩ := hrel
        clear HG HB0
        have HG := hid hg0
        have HB := hid hB0
        clear hg0 hB0
        by_cases hlt : k < np
        · obtain ⟨b3, o3, rfl, hb3, _, hcell3⟩ := HR3.out (by omega)
          obtain ⟨a4, c4, e4, hc4, hm4, hr4⟩ := HV3.out k hlt
          have g3 : wr.cell? ⟨b3, o3 + k, none⟩ = some (.slice a4 (PN k) c4) := by rw [grown_cell HG.out (a := ⟨b3, o3 + k, none⟩) hb3 (by simp), hcell3 k hlt, e4]
          unfold maxLen at hm4
          have HR4 := hid hr4
          clear e4 hcell3 hr4
          go_wp2
          go_loopw [11] (fun i wr => ∃ j : Nat, j ≤ PN k ∧ i = .int .i64 j ∧ w.grownBy wr none ∧ Bits wr w.heap.size (fun x => (UD nd KN KX LL YY x ∨ UP k PN PX x) ∨ UI j (PX k) x)) (fun i _ => PN k - (intOf i).toNat)
          case atStart => exact ⟨0, by omega, rfl, HG.out, HB.out.congr fun x => iff_or_left (fun ⟨i, hi, _⟩ => absurd hi (by omega))⟩
          case round =>
            obtain ⟨j, hj, rfl, hg0, hB0⟩ := hrel
            clear HG HB g3
            have HG := hid hg0
            have HB := hid hB0
            clear hg0 hB0
            by_cases hjl : j < PN k
            · obtain ⟨b4, o4, rfl, hb4, _, hcell4⟩ := HR4.out (by omega)
              have g4 : wr.cell? ⟨b4, o4 + j, none⟩ = some (.int .u32 (PX k j : Int)) := by rw [grown_cell HG.out (a := ⟨b4, o4 + j, none⟩) hb4 (by simp)]; exact hcell4 j hjl
              have ep := and_pid (PX k j) (HPX.out k j)
              clear hcell4
              go_wp2_with fail
              refine (mark_calls w.heap.size (pid (PX k j)) (pid_lt _) _ _ HB.out).mono ?_
              rintro e w1 ⟨rfl, hB1, hg1⟩
              have HG2 := hid (grown_trans HG.out hg1 (fun b e => Or.inr (by cases e; exact Nat.le_refl _)))
              have HB2 := hid hB1
              clear hB1 hg1
              go_wp2
              go_roundw
              case rel => exact ⟨j + 1, by omega, by go_num, HG2.out, HB2.out.congr fun x => by unfold mark; rw [UI_step]; exact or_assoc⟩
              case measure => simp [intOf]; omega
            · have e0 : j = PN k := by omega
              have HB0 := hid (HB.out.congr (T := fun x => UD nd KN KX LL YY x ∨ UP (k + 1) PN PX x) fun x => by rw [UP_step, e0]; exact or_assoc)
              clear e0
              go_wp2
              go_roundw
              case rel => exact ⟨k + 1, by omega, by go_num, HG.out, HB0.out⟩
              case measure => simp [intOf]; omega
        · have e0 : k = np := by omega
          have HB0 : Hid (Bits wr w.heap.size (fun x => UD nd KN KX LL YY x ∨ UP np PN PX x)) := by rw [← e0]; exact HB.out
          clear e0
          go_wp2
          go_ret
          exact ⟨rfl, HG.out, HB0.out⟩
end Go.Proofs.Qxb6614184aMods.L
