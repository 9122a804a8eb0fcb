/- zzBitsToChunks. -/
import Derived.Test.Qxb6614184aModsB
namespace Go.Proofs.Qxb6614184aMods.L
open Go.RowKit

theorem info54 : (Trym.prog.info? 54).map (fun i => (i.zero, i.size, i.bytes)) = some (some (.int .u16 0), 1, 2) := by kernel_rfl
theorem info55 : (Trym.prog.info? 55).map (fun i => (i.zero, i.size, i.bytes)) = some (some (.int .u32 0), 1, 4) := by kernel_rfl
theorem info23 : (Trym.prog.info? 23).map (fun i => (i.zero, i.size, i.bytes)) = some (some (.slice none 0 0), 1, 24) := by kernel_rfl

/-- What zzBitsToChunks has gathered of the chunks below k. -/
structure Gathered (w : World) (B : Nat) (T : Nat → Bool) (k : Nat) (kv lv : Value) (vs : List Value) : Prop where
  keys : Own w B 55 kv (cellsU .u32 (keysTo T k))
  lists : Own w B 23 lv vs
  len : vs.length = (keysTo T k).length
  each : ∀ (i c : Nat) (v : Value), (keysTo T k)[i]? = some c → vs[i]? = some v → Own w B 54 v (cellsU .u16 (low T c 65536))

set_option maxRecDepth 20000 in
set_option maxHeartbeats 4000000 in
theorem bitsToChunks_calls (b : Nat) (S : Nat → Prop) (T : Nat → Bool) (hT : ∀ x, T x = true ↔ S x) (w : World) (hB : Bits w b S) :
    Calls Trym.prog 37 #[.slice (some ⟨b, 0, none⟩) 32768 32768] w fun e w' => ∃ kv lv vs, e = .returned (.tuple #[kv, lv]) ∧ w.grownBy w' none ∧ Gathered w' w.heap.size T 32 kv lv vs := by
  obtain ⟨i54, hi54, hz54, hs54, hb54⟩ := info_parts info54
  obtain ⟨i55, hi55, hz55, hs55, hb55⟩ := info_parts info55
  obtain ⟨i23, hi23, hz23, hs23, hb23⟩ := info_parts info23
  have HB := hid hB
  have HT := hid hT
  have hbl : b < w.heap.size := hB.1
  clear hB hT
  obtain ⟨M, hM⟩ : ∃ M : Nat, M = 1024 := ⟨_, rfl⟩
  have hM1 : (M : Int) ≤ 1024 := by omega
  have hM2 : (1024 : Int) ≤ (M : Int) := by omega
  clear hM
  go_enter Trym.func37, Trym.ntmps37
  go_wp2
  go_loopw [4, 5, 6] (fun kv lv i wr => ∃ k : Nat, k ≤ 32 ∧ i = .int .i64 k ∧ w.grownBy wr none ∧ ∃ vs, Gathered wr w.heap.size T k kv lv vs) (fun _ _ i _ => 32 - (intOf i).toNat)
  case atStart => exact ⟨0, by omega, rfl, grown_refl _ _, [], ⟨Own.nil _ _ _, Own.nil _ _ _, rfl, fun i c v h => by simp [keysTo] at h⟩⟩
  case round =>
    obtain ⟨k, hk, rfl, hg0, vs, hG0⟩ := hrel
    have HG := hid hg0
    have HA := hid hG0
    clear hg0 hG0
    by_cases hlt : k < 32
    · have HBw := hid (HB.out.kept HG.out (by simp))
      have hblr : b < wr.heap.size := HBw.out.1
      have hgz : w.heap.size ≤ wr.heap.size := HG.out.size
      have bk : decide ((k : Int) < 32) = true := decide_eq_true (by omega)
      go_wp2
      generalize hwk : wr = wk at *
      clear hwk
      go_loopw [7, 8] (fun v i wr => ∃ j : Nat, j ≤ M ∧ i = .int .i64 j ∧ wk.grownBy wr none ∧ Own wr wk.heap.size 54 v (cellsU .u16 (low T k (64 * j)))) (fun _ i _ => M - (intOf i).toNat)
      case atStart => exact ⟨0, by omega, rfl, grown_refl _ _, Own.nil _ _ _⟩
      case round =>
        obtain ⟨j, hj, rfl, hg1, hO1⟩ := hrel
        obtain ⟨a7, c7, e7⟩ := hO1.form
        subst e7
        have HG1 := hid hg1
        have HO1 := hid hO1
        clear hg1 hO1
        by_cases hjl : j < M
        · obtain ⟨_, q, hq, hql, hqt⟩ := (HBw.out.kept HG1.out (by simp)).2 (k * 1024 + j) (by omega)
          have HQT := hid hqt
          clear hqt
          have bj : decide ((j : Int) < 1024) = true := decide_eq_true (by omega)
          by_cases hq0 : q = 0
          · have bq : ((q : Int) == 0) = true := beq_iff_eq.2 (by omega)
            have HL1 : Hid (low T k (64 * (j + 1)) = low T k (64 * j)) := by
              rw [show 64 * (j + 1) = 64 * j + 64 from by omega]
              refine low_none 64 (fun t ht => ?_)
              have h1 := HQT.out t ht
              rw [hq0] at h1
              cases e : T (cid k (64 * j + t))
              · rfl
              · have h2 := (HT.out _).1 e
                rw [show cid k (64 * j + t) = 64 * (k * 1024 + j) + t from by unfold cid; omega] at h2
                have h3 := h1.2 h2
                simp at h3
            have HQ0 := hid hq0
            clear hq0
            go_wp2
            go_roundw
            case rel => exact ⟨j + 1, by omega, by go_num, HG1.out, by rw [HL1.out]; exact HO1.out⟩
            case measure => simp [intOf]; omega
          · have bq : ((q : Int) == 0) = false := beq_eq_false_iff_ne.2 (by omega)
            have HQ0 := hid hq0
            clear hq0
            go_wp2
            clear hq
            go_loopw [7, 10] (fun v i wr => ∃ t : Nat, t ≤ 64 ∧ i = .int .u64 t ∧ wk.grownBy wr none ∧ Own wr wk.heap.size 54 v (cellsU .u16 (low T k (64 * j + t)))) (fun _ i _ => 64 - (intOf i).toNat)
            case atStart => exact ⟨0, by omega, rfl, HG1.out, HO1.out⟩
            case round =>
              clear HG1 HO1
              obtain ⟨t, ht, rfl, hg1, hO1⟩ := hrel
              obtain ⟨a8, c8, e8⟩ := hO1.form
              subst e8
              have HG1 := hid hg1
              have HO1 := hid hO1
              clear hg1 hO1
              by_cases htl : t < 64
              · have bt : decide ((t : Int) < 64) = true := decide_eq_true (by omega)
                have ebit := bit_test q t hql
                have hTq : Hid (q.testBit t = T (cid k (64 * j + t))) := by
                  show q.testBit t = T (cid k (64 * j + t))
                  rw [Bool.eq_iff_iff, HQT.out t htl, HT.out, show cid k (64 * j + t) = 64 * (k * 1024 + j) + t from by unfold cid; omega]
                by_cases hb : q.testBit t = true
                · have hlen := low_length T k (64 * j + t)
                  have hcl := cellsU_length .u16 (low T k (64 * j + t))
                  have HL1 : Hid (low T k (64 * j + (t + 1)) = low T k (64 * j + t) ++ [64 * j + t]) := low_yes (show T (cid k (64 * j + t)) = true by rw [← hTq.out]; exact hb)
                  have HCL := hid hcl
                  have HLEN := hid hlen
                  clear hcl hlen
                  go_wp2_with (first | (at_builtin; refine wpList_append_own _ rfl (.tmp 37) (.tmp 44) 23 rfl wk.heap.size 54 i54 (.int .u16 0) 1 2 Trym.underlying23 hi54 hz54 hs54 hb54 rfl (by decide) _ _ _ rfl ((show wr.ownsRow _ _ _ _ _ _ from HO1.out).alloc _) ⟨wr.heap.size, 0, none⟩ 1 1 [.int .u16 ((j : Int) * 64 + (t : Int))] rfl rfl ?c1 ?c2 ?c3 ?c4 ?c5 ?_) | fail)
                  case c1 =>
                    intro j' u hj'
                    match j', hj' with
                    | 0, hj' => simp at hj'; subst hj'; simp [Addr.add]
                  case c2 => intro u hu; simp at hu; subst hu; rfl
                  case c3 => go_light; have := HCL.out; have := HLEN.out; unfold maxLen; omega
                  case c4 => go_light; have := HCL.out; have := HLEN.out; omega
                  case c5 => go_light; have := HG1.out.size; simp; omega
                  intro v' w1 hown' hgrow _
                  have HO2 : Hid (Own w1 wk.heap.size 54 v' (cellsU .u16 (low T k (64 * j + (t + 1))))) := by
                    have e2 : cellsU .u16 (low T k (64 * j + (t + 1))) = cellsU .u16 (low T k (64 * j + t)) ++ [.int .u16 ((j : Int) * 64 + (t : Int))] := by
                      rw [HL1.out, cellsU_append]
                      show _ ++ [Value.int .u16 ((64 * j + t : Nat) : Int)] = _
                      rw [show ((64 * j + t : Nat) : Int) = (j : Int) * 64 + (t : Int) from by omega]
                    show Own w1 wk.heap.size 54 v' (cellsU .u16 (low T k (64 * j + (t + 1))))
                    rw [e2]
                    unfold Own
                    rw [List.length_append]
                    exact hown'
                  have HG2 := hid (grown_trans (grown_alloc HG1.out _) hgrow (fun b e => Or.inr (HO1.out.above b e)))
                  clear hown' hgrow
                  go_wp2
                  go_roundw
                  case rel => exact ⟨t + 1, by omega, by go_num, HG2.out, HO2.out⟩
                  case measure => simp [intOf]; omega
                · have hbf : q.testBit t = false := by simpa using hb
                  have HL1 : Hid (low T k (64 * j + (t + 1)) = low T k (64 * j + t)) := low_no (show T (cid k (64 * j + t)) = false by rw [← hTq.out]; exact hbf)
                  clear hb
                  go_wp2
                  go_roundw
                  case rel => exact ⟨t + 1, by omega, by go_num, HG1.out, by rw [HL1.out]; exact HO1.out⟩
                  case measure => simp [intOf]; omega
              · have bt : decide ((t : Int) < 64) = false := decide_eq_false (by omega)
                have e0 : Hid (64 * j + t = 64 * (j + 1)) := by show 64 * j + t = 64 * (j + 1); omega
                go_wp2
                go_roundw
                case rel => exact ⟨j + 1, by omega, by go_num, HG1.out, by rw [← e0.out]; exact HO1.out⟩
                case measure => simp [intOf]; omega
        · have bj : decide ((j : Int) < 1024) = false := decide_eq_false (by omega)
          have e64 : Hid (64 * j = 65536) := by show 64 * j = 65536; omega
          have hcl := cellsU_length .u16 (low T k (64 * j))
          have HCL := hid hcl
          clear hcl
          have hkl := keys_length T k
          have hvl : vs.length ≤ 32 := by rw [HA.out.len]; omega
          by_cases hpos : 0 < (low T k 65536).length
          · have bl : 0 < (cellsU .u16 (low T k (64 * j))).length := by rw [HCL.out, e64.out]; exact hpos
            have hwk : IntKind.u32.wrap (k : Int) = (k : Int) := by rw [IntKind.wrap_u32']; omega
            have HK1 := hid (keys_yes hpos)
            clear hpos
            have HKL := hid (cellsU_length .u32 (keysTo T k))
            go_wp2_with (first | (at_builtin; refine wpList_append_own _ rfl (.tmp 49) (.tmp 52) 26 rfl w.heap.size 55 i55 (.int .u32 0) 1 4 Trym.underlying26 hi55 hz55 hs55 hb55 rfl (by decide) _ _ _ rfl ((show wr.ownsRow _ _ _ _ _ _ from HA.out.keys.kept0 HG1.out).alloc _) ⟨wr.heap.size, 0, none⟩ 1 1 [.int .u32 (k : Int)] rfl rfl ?c1 ?c2 ?c3 ?c4 ?c5 ?_) | fail)
            case c1 =>
              intro j' u hj'
              match j', hj' with
              | 0, hj' => simp at hj'; subst hj'; simp [Addr.add]
            case c2 => intro u hu; simp at hu; subst hu; rfl
            case c3 => go_light; have := HKL.out; unfold maxLen; omega
            case c4 => go_light; have := HKL.out; omega
            case c5 => go_light; have := HG1.out.size; simp; omega
            intro kv' w1 hown1 hgrow1 _
            have HO1k : Hid (Own w1 w.heap.size 55 kv' (cellsU .u32 (keysTo T (k + 1)))) := by
              show Own w1 w.heap.size 55 kv' (cellsU .u32 (keysTo T (k + 1)))
              rw [HK1.out, cellsU_append]
              unfold Own
              rw [List.length_append]
              exact hown1
            have G1 := grown_alloc HG1.out (.cells #[.int .u32 (k : Int)] 55)
            have A1 := (HA.out.lists.kept0 G1).kept hgrow1 (HA.out.lists.apart HA.out.keys (by decide))
            have HA1 := hid A1
            have HX1 := hid hgrow1
            have HG2 := hid G1
            have hz1 : wr.heap.size < w1.heap.size := by have := hgrow1.size; simp at this; omega
            clear hown1 hgrow1 G1 A1
            go_wp2_with (first | (at_builtin; refine wpList_append_own _ rfl (.tmp 54) (.tmp 56) 27 rfl w.heap.size 23 i23 (.slice none 0 0) 1 24 Trym.underlying27 hi23 hz23 hs23 hb23 rfl (by decide) _ _ _ rfl ((show w1.ownsRow _ _ _ _ _ _ from HA1.out).alloc _) ⟨w1.heap.size, 0, none⟩ 1 1 [.slice a7 (cellsU .u16 (low T k (64 * j))).length c7] rfl rfl ?c1 ?c2 ?c3 ?c4 ?c5 ?_) | fail)
            case c1 =>
              intro j' u hj'
              match j', hj' with
              | 0, hj' => simp at hj'; subst hj'; simp [Addr.add]
            case c2 => intro u hu; simp at hu; subst hu; rfl
            case c3 => go_light; unfold maxLen; omega
            case c4 => go_light; omega
            case c5 => go_light; have := HG1.out.size; simp; omega
            intro lv' w2 hown2 hgrow2 _
            have HA2 : Hid (Own w2 w.heap.size 23 lv' (vs ++ [.slice a7 (cellsU .u16 (low T k (64 * j))).length c7])) := by
              show Own w2 w.heap.size 23 lv' (vs ++ [.slice a7 (cellsU .u16 (low T k (64 * j))).length c7])
              unfold Own
              rw [List.length_append]
              exact hown2
            have X2 := grown_alloc (grown_refl w1 none) (.cells #[.slice a7 (cellsU .u16 (low T k (64 * j))).length c7] 23)
            have pass : ∀ (B' : Nat) (v : Value) (xs : List Value), Own wr B' 54 v xs → Own w2 B' 54 v xs := fun B' v xs h =>
              have q0 := h.kept0 (World.grownBy_alloc wr (.cells #[.int .u32 (k : Int)] 55) none)
              have q1 := q0.kept HX1.out (h.apart (HA.out.keys.kept0 HG1.out) (by decide))
              have q2 := q1.kept0 X2
              q2.kept hgrow2 (q1.apart HA1.out (by decide))
            have HGA : Hid (Gathered w2 w.heap.size T (k + 1) kv' lv' (vs ++ [.slice a7 (cellsU .u16 (low T k (64 * j))).length c7])) := {
              keys := (HO1k.out.kept0 X2).kept hgrow2 (HO1k.out.apart HA1.out (by decide))
              lists := HA2.out
              len := by rw [HK1.out, List.length_append, List.length_append, HA.out.len]; rfl
              each := fun i c v h1 h2 => by
                rw [HK1.out] at h1
                by_cases hi : i < (keysTo T k).length
                · rw [List.getElem?_append_left hi] at h1
                  rw [List.getElem?_append_left (by rw [HA.out.len]; exact hi)] at h2
                  exact pass _ _ _ ((HA.out.each i c v h1 h2).kept0 HG1.out)
                · rw [List.getElem?_append_right (by omega)] at h1
                  rw [List.getElem?_append_right (by rw [HA.out.len]; omega)] at h2
                  have hlen := HA.out.len
                  have ei : i - (keysTo T k).length = 0 := by
                    rcases Nat.eq_zero_or_pos (i - (keysTo T k).length) with h0 | h0
                    · exact h0
                    · rw [List.getElem?_eq_none (by simp; omega)] at h1
                      simp at h1
                  have ei2 : i - vs.length = 0 := by omega
                  rw [ei] at h1
                  rw [ei2] at h2
                  simp at h1 h2
                  subst h1
                  subst h2
                  have := pass _ _ _ HO1.out
                  rw [e64.out] at this
                  rw [e64.out]
                  exact this.low hgz }
            have HGW := hid (grown_trans (grown_trans0 (grown_trans (grown_trans0 HG.out HG2.out) HX1.out (fun b e => Or.inr (HA.out.keys.above b e))) X2) hgrow2 (fun b e => Or.inr (HA.out.lists.above b e)))
            clear hown2 hgrow2 X2 pass
            go_wp2
            go_roundw
            case rel => exact ⟨k + 1, by omega, by go_num, HGW.out, _, HGA.out⟩
            case measure => simp [intOf]; omega
          · have bl : ¬ 0 < (cellsU .u16 (low T k (64 * j))).length := by rw [HCL.out, e64.out]; exact hpos
            have HK1 := hid (keys_no hpos)
            clear hpos
            have HGA : Hid (Gathered wr w.heap.size T (k + 1) u4 u5 vs) := {
              keys := by rw [HK1.out]; exact HA.out.keys.kept0 HG1.out
              lists := HA.out.lists.kept0 HG1.out
              len := by rw [HK1.out]; exact HA.out.len
              each := fun i c v h1 h2 => by
                rw [HK1.out] at h1
                exact (HA.out.each i c v h1 h2).kept0 HG1.out }
            have HGW := hid (grown_trans0 HG.out HG1.out)
            go_wp2
            go_roundw
            case rel => exact ⟨k + 1, by omega, by go_num, HGW.out, _, HGA.out⟩
            case measure => simp [intOf]; omega
    · have bk : decide ((k : Int) < 32) = false := decide_eq_false (by omega)
      have e0 : Hid (k = 32) := by show k = 32; omega
      go_wp2
      go_ret2
      exact ⟨_, _, vs, rfl, HG.out, by rw [← e0.out]; exact HA.out⟩
end Go.Proofs.Qxb6614184aMods.L
