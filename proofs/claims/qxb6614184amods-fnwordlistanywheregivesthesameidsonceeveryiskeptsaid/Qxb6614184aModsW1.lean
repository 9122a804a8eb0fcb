/- The leaves: placeOf, zzGrow, zzMark, zzHas, the builders and readers of structs. -/
import Derived.Test.Qxb6614184aModsProg
import Derived.Test.Qxb6614184aModsL
import Derived.WalkKit
import Derived.Deep.Light
import Derived.WalkLawsBesides
import Derived.WalkSpells
import Derived.Deep.QuietTactic
import Derived.BigQuiet
namespace Go.Proofs.Qxb6614184aMods.L
open Go.RowKit

theorem ret_int {k : IntKind} {a b : Int} (h : a = b) : Ending.returned (.int k a) = .returned (.int k b) := by rw [h]
theorem ret_bool {a b : Bool} (h : a = b) : Ending.returned (.bool a) = .returned (.bool b) := by rw [h]

theorem placeOf_calls (x : Nat) (hx : x < 4294967296) (w : World) :
    Calls Trym.prog 40 #[.int .u32 (x : Int)] w fun e w' => e = .returned (.int .i64 ((x / 2097152 : Nat) : Int)) ∧ w = w' := by
  go_enter Trym.func40, Trym.ntmps40
  go_wp2
  go_ret
  exact ⟨ret_int (by omega), rfl⟩

theorem grow_calls (t c d : Int) (ht : -1 ≤ t ∧ t ≤ 1048576) (hc : 0 ≤ c ∧ c ≤ 9223372036854775807) (hd : d = 1 ∨ d = 2 ∨ d = 4 ∨ d = 8) (w : World) :
    Calls Trym.prog 23 #[.int .i64 t, .int .i64 c, .int .i64 d] w fun e w' => ∃ r : Int, e = .returned (.int .i64 r) ∧ (-1 ≤ r ∧ r ≤ 1048576) ∧ w = w' := by
  rcases hd with rfl | rfl | rfl | rfl
  all_goals
    go_enter Trym.func23, Trym.ntmps23
    go_wp2
    all_goals
      go_ret
      exact ⟨_, rfl, by omega, rfl⟩

theorem mark_calls (b x : Nat) (hx : x < 2097152) (S : Nat → Prop) (w : World) (h : Bits w b S) :
    Calls Trym.prog 25 #[.slice (some ⟨b, 0, none⟩) 32768 32768, .int .u32 (x : Int)] w fun e w' => e = .returned (.tuple #[]) ∧ Bits w' b (mark S x) ∧ w.grownBy w' (some b) := by
  obtain ⟨hf, q, hc, hq, ht⟩ := h.2 (x / 64) (by omega)
  have HM : Hid _ := h.mark x hx q hc hq
  clear ht h
  have e1 := and63 x (by omega)
  have e3 := or_wrap q (x % 64) hq (by omega)
  go_enter Trym.func25, Trym.ntmps25
  go_wp2
  go_end0
  exact ⟨rfl, HM.out, grown_setCell _ _ _⟩

theorem has_calls (b x : Nat) (hx : x < 2097152) (S : Nat → Prop) (w : World) (h : Bits w b S) :
    Calls Trym.prog 36 #[.slice (some ⟨b, 0, none⟩) 32768 32768, .int .u32 (x : Int)] w fun e w' => ∃ o : Bool, e = .returned (.bool o) ∧ (o = true ↔ S x) ∧ w = w' := by
  obtain ⟨hf, q, hc, hq, ht⟩ := h.2 (x / 64) (by omega)
  have HT : Hid (q.testBit (x % 64) = true ↔ S x) := by
    have := ht (x % 64) (by omega)
    rwa [show 64 * (x / 64) + x % 64 = x from by omega] at this
  clear ht h
  have e1 := and63 x (by omega)
  go_enter Trym.func36, Trym.ntmps36
  go_wp2
  go_ret
  exact ⟨_, ret_bool (bit_test q (x % 64) hq), HT.out, rfl⟩

theorem newChunk_calls (k n : Int) (a : Option Addr) (m c : Nat) (w : World) :
    Calls Trym.prog 26 #[.int .u32 k, .int .u32 n, .slice a m c] w fun e w' => e = .returned (.agg #[.int .u32 k, .int .u32 n, .slice a m c, .pointer none]) ∧ w.grownBy w' none := by
  go_enter Trym.func26, Trym.ntmps26
  go_wp2
  exact bodyPost_ret (v := .agg #[.int .u32 k, .int .u32 n, .slice a m c, .pointer none]) (by simp [results, Trym.results26, go_sem]) rfl ⟨rfl, World.grownBy_alloc _ _ _⟩

theorem newSet_calls (a a' : Option Addr) (m c m' c' : Nat) (n : Int) (w : World) :
    Calls Trym.prog 27 #[.slice a m c, .slice a' m' c', .int .i64 n] w fun e w' => e = .returned (.agg #[.slice a m c, .slice a' m' c', .int .i64 n]) ∧ w.grownBy w' none := by
  go_enter Trym.func27, Trym.ntmps27
  go_wp2
  exact bodyPost_ret (v := .agg #[.slice a m c, .slice a' m' c', .int .i64 n]) (by simp [results, Trym.results27, go_sem]) rfl ⟨rfl, World.grownBy_alloc _ _ _⟩

theorem newDense_calls (p : Int) (a a' : Option Addr) (m c m' c' : Nat) (n : Int) (w : World) :
    Calls Trym.prog 28 #[.int .u16 p, .agg #[.slice a m c, .slice a' m' c', .int .i64 n]] w fun e w' => e = .returned (.agg #[.int .u16 p, .slice a m c, .slice a' m' c', .int .i64 n]) ∧ w.grownBy w' none := by
  go_enter Trym.func28, Trym.ntmps28
  go_wp2
  exact bodyPost_ret (v := .agg #[.int .u16 p, .slice a m c, .slice a' m' c', .int .i64 n]) (by simp [results, Trym.results28, go_sem]) rfl ⟨rfl, grown_alloc (World.grownBy_alloc _ _ _) _⟩

theorem newList_calls (s : ByteArray) (n1 n2 n3 : Int) (a a' p : Option Addr) (m c m' c' : Nat) (w : World) :
    Calls Trym.prog 29 #[.string s, .int .i64 n1, .int .i64 n2, .int .u64 n3, .slice a m c, .slice a' m' c', .pointer p] w fun e w' => e = .returned (.pointer (some ⟨w.heap.size, 0, none⟩)) ∧ w' = w.alloc (.cells #[.string s, .int .i64 n1, .int .i64 n2, .int .u64 n3, .slice a m c, .slice a' m' c', .pointer p] 79) := by
  go_enter Trym.func29, Trym.ntmps29
  go_wp2
  go_ret
  exact ⟨rfl, rfl⟩

theorem chunkCount_calls (f n : Value) (a : Option Addr) (m c : Nat) (w : World) :
    Calls Trym.prog 32 #[.agg #[.slice a m c, f, n]] w fun e w' => e = .returned (.int .i64 m) ∧ w.grownBy w' none := by
  go_enter Trym.func32, Trym.ntmps32
  go_wp2
  go_ret
  exact ⟨rfl, World.grownBy_alloc _ _ _⟩

theorem flat_calls (a a' : Option Addr) (m c m' c' : Nat) (n : Int) (w : World) :
    Calls Trym.prog 33 #[.agg #[.slice a m c, .slice a' m' c', .int .i64 n]] w fun e w' => e = .returned (.slice a' m' c') ∧ w.grownBy w' none := by
  go_enter Trym.func33, Trym.ntmps33
  go_wp2
  go_ret
  exact ⟨rfl, World.grownBy_alloc _ _ _⟩

theorem len_calls (a a' : Option Addr) (m c m' c' : Nat) (n : Int) (w : World) :
    Calls Trym.prog 34 #[.agg #[.slice a m c, .slice a' m' c', .int .i64 n]] w fun e w' => e = .returned (.int .i64 n) ∧ w.grownBy w' none := by
  go_enter Trym.func34, Trym.ntmps34
  go_wp2
  go_ret
  exact ⟨rfl, World.grownBy_alloc _ _ _⟩

theorem bits_same {w : World} {b1 b2 : Nat} {S : Nat → Prop} (h1 : Bits w b1 S) (h2 : Bits w b2 S) (j : Nat) (hj : j < 32768) :
    ∃ q : Nat, w.cell? ⟨b1, j, none⟩ = some (.int .u64 (q : Int)) ∧ w.cell? ⟨b2, j, none⟩ = some (.int .u64 (q : Int)) := by
  obtain ⟨_, q1, c1, l1, t1⟩ := h1.2 j hj
  obtain ⟨_, q2, c2, l2, t2⟩ := h2.2 j hj
  have e : q1 = q2 := by
    apply Nat.eq_of_testBit_eq
    intro t
    by_cases ht : t < 64
    · rw [Bool.eq_iff_iff, t1 t ht, t2 t ht]
    · have z1 : q1 < 2 ^ t := Nat.lt_of_lt_of_le l1 (Nat.pow_le_pow_right (n := 2) (by omega) (show 64 ≤ t by omega))
      have z2 : q2 < 2 ^ t := Nat.lt_of_lt_of_le l2 (Nat.pow_le_pow_right (n := 2) (by omega) (show 64 ≤ t by omega))
      rw [Nat.testBit_lt_two_pow z1, Nat.testBit_lt_two_pow z2]
  subst e
  exact ⟨q1, c1, c2⟩

theorem bitsEqual_gen (N b1 b2 : Nat) (hN : N ≤ 9223372036854775807) (w : World) (h : ∀ j, j < N → ∃ q : Nat, w.cell? ⟨b1, j, none⟩ = some (.int .u64 (q : Int)) ∧ w.cell? ⟨b2, j, none⟩ = some (.int .u64 (q : Int))) :
    Calls Trym.prog 11 #[.slice (some ⟨b1, 0, none⟩) N N, .slice (some ⟨b2, 0, none⟩) N N] w fun e w' => e = .returned (.bool true) ∧ w.grownBy w' none := by
  have HS : Hid (∀ j, j < N → ∃ q : Nat, w.cell? ⟨b1, j, none⟩ = some (.int .u64 (q : Int)) ∧ w.cell? ⟨b2, j, none⟩ = some (.int .u64 (q : Int))) := h
  clear h
  go_enter Trym.func11, Trym.ntmps11
  go_wp2
  go_loopw [5] (fun i wr => ∃ k nd : Nat, k ≤ N ∧ i = .int .i64 k ∧ wr = w.drewN nd) (fun i _ => N - (intOf i).toNat)
  case atStart => exact ⟨0, 0, by omega, rfl, rfl⟩
  case round =>
    obtain ⟨k, nd, hk, rfl, rfl⟩ := hrel
    by_cases hlt : k < N
    · obtain ⟨q, c1, c2⟩ := HS.out k hlt
      go_wp2
      go_quiet (fail)
      go_wp2
      go_roundw
      case rel => exact ⟨k + 1, _, by omega, by go_num, rfl⟩
      case measure => simp [intOf]; omega
    · go_wp2
      go_ret
      exact ⟨rfl, grown_drewN (grown_refl _ _) _⟩

theorem bitsEqual_calls (b1 b2 : Nat) (S : Nat → Prop) (w : World) (h1 : Bits w b1 S) (h2 : Bits w b2 S) :
    Calls Trym.prog 11 #[.slice (some ⟨b1, 0, none⟩) 32768 32768, .slice (some ⟨b2, 0, none⟩) 32768 32768] w fun e w' => e = .returned (.bool true) ∧ w.grownBy w' none :=
  bitsEqual_gen 32768 b1 b2 (by omega) w (fun j hj => bits_same h1 h2 j hj)

end Go.Proofs.Qxb6614184aMods.L
