/- FnVariableNameIsLongestIdentifierPrefix: the law out of its callees' contracts. -/
import Derived.Test.Qxb6600001aModsRows
import Derived.Test.Qxb6600001aModsVarName
import Derived.WalkKit
import Derived.ProofKit
import Derived.OpenShut
import Derived.ShutString
import Derived.Deep.Light
namespace Go.Proofs.Qxb6600001aMods.fnVariableNameIsLongestIdentifierPrefix
open Go.ChangeShapes Go.WideShapes Go.ChangeAt Go.RowKit
open Go.ChangeMaps (open_string shut_string)
set_option linter.unusedVariables false      -- a walk need not use every 'w<i>' (that an integer argument fits its kind)

theorem own : ownKnob Trym.prog.godebug = none := by kernel_rfl

theorem walk (a0 : ByteArray) (w0 : a0.size ≤ maxLen) (w : World) :
    Calls Trym.prog 6 #[.string a0] w fun e w' => e = .returned (.bool true) ∧ Grown w w' := by
  by_cases hb : a0.size ≤ 1048576
  · have hd : decide (a0.size ≤ 1048576) = true := decide_eq_true hb
    have hd1 : decide ((1048576 : Int) < (a0.size : Int)) = false := decide_eq_false (by omega)
    go_enter Trym.func6, Trym.ntmps6
    go_wp2_with fail
    refine (bytes_ok _ w0 _).mono ?_
    rintro e w' ⟨rfl, rfl⟩
    go_wp2_with fail
    refine (zz_var_name _ w0 _).mono ?_
    rintro e w' ⟨r, hr, rfl, rfl⟩
    obtain ⟨hle, hpre, hok, hstop⟩ := hr
    have HOK : Hid (∀ i, i < r.size → nb (byteAt r i) (decide (i = 0)) = true) := hok
    have HST : Hid (r.size < a0.size → nb (byteAt a0 r.size) (decide (r.size = 0)) = false) := hstop
    clear hok hstop
    have hne : ((a0.extract 0 r.size).toList == r.toList) = true := by rw [hpre]; simp
    clear hpre
    have hd2 : decide (a0.size < r.size) = false := decide_eq_false (by omega)
    go_wp2_with fail
    go_loop [4] (fun i => ∃ k : Nat, k ≤ r.size ∧ i = .int .i64 k) (fun i => r.size - (intOf i).toNat)
    case atStart => exact ⟨0, by omega, rfl⟩
    case round =>
      obtain ⟨k, hk, rfl⟩ := hrel
      by_cases hlt : k < r.size
      · have hy : nb (r[k].toNat : Int) ((k : Int) == 0) = true := by
          have := HOK.out k hlt
          rw [byteAt_get r k hlt] at this
          rw [← this]; congr 1
          rw [Bool.eq_iff_iff]; simp
        go_wp2_with fail
        refine (is_name _ _ _).mono ?_
        rintro e w1 ⟨rfl, hw1⟩
        obtain rfl := hw1.symm
        go_wp2
        go_round
        case rel => exact ⟨k + 1, by omega, by go_num⟩
        case measure => simp [intOf]; omega
      · by_cases hs : r.size < a0.size
        · have hy : nb (a0[r.size].toNat : Int) ((r.size : Int) == 0) = false := by
            have := HST.out hs
            rw [byteAt_get a0 r.size hs] at this
            rw [← this]; congr 1
            rw [Bool.eq_iff_iff]; simp
          go_wp2_with fail
          refine (is_name _ _ _).mono ?_
          rintro e w' ⟨rfl, rfl⟩
          go_wp2
          go_ret
          exact ⟨rfl, Grown.refl _⟩
        · go_wp2
          go_ret
          exact ⟨rfl, Grown.refl _⟩
  · have hd : decide (a0.size ≤ 1048576) = false := decide_eq_false hb
    go_enter Trym.func6, Trym.ntmps6
    go_wp2_with fail
    refine (bytes_ok _ w0 _).mono ?_
    rintro e w' ⟨rfl, rfl⟩
    go_wp2_with fail
    go_ret
    exact ⟨rfl, Grown.refl _⟩

/-! ### THE ROW's STEP: WRITTEN OUT: LEAVE IT -/
set_option maxRecDepth 100000 in
theorem lifted (os : Os) (started : os.Started) (H : Type) (enc : TypeId × Value → H) :
    ReturnsInHanded {} Trym.checked os 6 .any (Rows.fnVariableNameIsLongestIdentifierPrefixSpec.pre6 enc Trym.prog Trym.f6 Rows.fnVariableNameIsLongestIdentifierPrefixRow.domain false) (Rows.fnVariableNameIsLongestIdentifierPrefixSpec.post enc Trym.prog Trym.f6 false true false false) := by
  refine returnsInHanded_of_change (C := Trym.checked) own started (by kernel_rfl) Trym.func6
    (ChangeSpec.witness6 (enc := enc) (C := Trym.checked) false ⟨#[], #[.string ByteArray.empty], []⟩ 8 (by kernel_rfl) (by kernel_rfl) (by kernel_rfl) (by kernel_rfl)) ?_
  intro W base args ds gs before hval0 hW hcnd _
  have hval : ∀ (j : Nat) t v, Trym.f6.params[j]? = some t → args[j]? = some v → Value.okWide Trym.prog W .any base t v := hval0
  have hW' := hW
  obtain ⟨p, q, hA0, hV, rfl, hfz, hnd⟩ := hW
  have hA : DataW.TrodAll enc Trym.prog W 0 (fun _ => true) true Trym.f6.params.toList args.toList ds p := hA0
  rw [Trym.params6] at hA hval
  obtain ⟨v0, vs0, d0, ds0, p0, q0, hargs, rfl, rfl, h0, r0⟩ := trodAll_cons hA
  obtain ⟨rfl, rfl, rfl⟩ := trodAll_nil r0
  obtain rfl : args = #[v0] := by cases args; simp_all
  obtain ⟨rfl, rfl⟩ := trodVars_none hV
  obtain ⟨a0, rfl, rfl, rfl, w0⟩ := open_string Trym.underlying9 (hval 0 9 v0 rfl rfl) h0
  clear hA0 hval0
  simp only [List.append_nil] at hW'
  refine (walk a0 w0 W).mono fun e W' ⟨he, hg⟩ => ?_
  subst he
  exact ⟨_, rfl, post_of_same (pa := []) (pv := []) hW' (fun _ _ _ => (trodAll_cons_mk (shut_bool Trym.underlying4 _) trodAll_mk0)) (fun sp _ => (trodAll_cons_mk (shut_string Trym.underlying9 w0) trodAll_mk0)) (fun _ _ => rfl) rfl
    (hg.frame _) hg.2.1 (ok_one (by kernel_rfl) rfl (okWide_bool_mk Trym.underlying4 _))⟩

theorem over : Rows.fnVariableNameIsLongestIdentifierPrefixRow.holds Trym.pinned (OpenSpec.ofChange Rows.fnVariableNameIsLongestIdentifierPrefixSpec) :=
  OpenClaim.holds_of_wide 6 Trym.f6 rfl rfl rfl rfl rfl rfl rfl ⟨rfl, rfl, rfl, rfl, rfl⟩ rfl rfl rfl rfl rfl (by kernel_rfl) Trym.func6 (by kernel_rfl)
    (of_decide_eq_true (by kernel_rfl)) (by unfold Func.isWrapper; first | (rw [if_pos (by decide +kernel)]; kernel_rfl) | (rw [if_neg (by decide +kernel)]; exact ⟨rfl, rfl⟩))
    (fun os started H enc _ => lifted os started H enc)

/-- The given statement. -/
theorem proved : Rows.FnVariableNameIsLongestIdentifierPrefixSaid :=
  over
end Go.Proofs.Qxb6600001aMods.fnVariableNameIsLongestIdentifierPrefix
