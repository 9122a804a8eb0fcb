/- FnNotNameCharIsOutsideTheNameTable: contracts of the two callees, then the law. -/
import Derived.Test.Qxb6609559aModsRows
import Derived.WalkKit
import Derived.ProofKit
import Derived.OpenShut
import Derived.ShutString
namespace Go.Proofs.Qxb6609559aMods.fnNotNameCharIsOutsideTheNameTable
open Go.ChangeShapes Go.WideShapes Go.ChangeAt Go.RowKit
open Go.ChangeMaps (open_string shut_string)
set_option linter.unusedVariables false      -- a walk need not use every 'w<i>' (that an integer argument fits its kind)

theorem own : ownKnob Trym.prog.godebug = none := by kernel_rfl

/-- Is c one of the 63 name characters? -/
def nameC (c : Int) : Bool := decide ((97 ≤ c ∧ c ≤ 122) ∨ (65 ≤ c ∧ c ≤ 90) ∨ (48 ≤ c ∧ c ≤ 57) ∨ c = 45)

theorem ret_bool {a b : Bool} (h : a = b) : Ending.returned (.bool a) = .returned (.bool b) := by rw [h]

theorem not_name (c : Int) (w : World) :
    Calls Trym.prog 6 #[.int .i32 c] w fun e w' => e = .returned (.bool (!nameC c)) ∧ w' = w := by
  go_enter Trym.func6, Trym.ntmps6
  go_wp2
  all_goals
    go_ret
    exact ⟨ret_bool (by unfold nameC; rw [Bool.eq_iff_iff]; simp; omega), rfl⟩

/-- The table of name characters, as the Go constant lays it. -/
abbrev table : ByteArray := ⟨#[97, 98, 99, 100, 101, 102, 103, 104, 105, 106, 107, 108, 109, 110, 111, 112, 113, 114, 115, 116, 117, 118, 119, 120, 121, 122, 65, 66, 67, 68, 69, 70, 71, 72, 73, 74, 75, 76, 77, 78, 79, 80, 81, 82, 83, 84, 85, 86, 87, 88, 89, 90, 48, 49, 50, 51, 52, 53, 54, 55, 56, 57, 45]⟩

theorem tab_name : ∀ k : Fin 63, nameC (wrap32 ((table[k.1]'k.2).toNat : Int)) = true ∧ wrap32 ((table[k.1]'k.2).toNat : Int) = ((table.data[k.1]?.getD 0).toNat : Int) := by decide +kernel
theorem name_tab : ∀ c : Fin 128, nameC (c.1 : Int) = true → ∃ j : Fin 63, ((table.data[j.1]?.getD 0).toNat : Int) = (c.1 : Int) := by decide +kernel

/-- The test said yes at place k: c is a name character. -/
theorem hit {c : Int} {k : Nat} (hk : k < 63) (h : (wrap32 ((table[k]'hk).toNat : Int) == c) = true) : nameC c = true := by
  have := (tab_name ⟨k, hk⟩).1
  rw [beq_iff_eq.1 h] at this
  exact this

/-- The test said no at place k. -/
theorem miss {c : Int} {k : Nat} (hk : k < 63) (h : (wrap32 ((table[k]'hk).toNat : Int) == c) = false)
    (hj : ∀ j : Nat, j < k → ((table.data[j]?.getD 0).toNat : Int) ≠ c) : ∀ j : Nat, j < k + 1 → ((table.data[j]?.getD 0).toNat : Int) ≠ c := by
  intro j hlt
  by_cases e : j = k
  · subst e
    rw [← (tab_name ⟨j, hk⟩).2]
    simpa using h
  · exact hj j (by omega)

/-- No place holds c: it is none. -/
theorem out {c : Int} {k : Nat} (hk : ¬ k < 63) (hj : ∀ j : Nat, j < k → ((table.data[j]?.getD 0).toNat : Int) ≠ c) : nameC c = false := by
  cases e : nameC c with
  | false => rfl
  | true =>
    have hb : 0 ≤ c ∧ c < 128 := by
      have h := e
      unfold nameC at h
      have := of_decide_eq_true h
      omega
    obtain ⟨n, rfl⟩ := Int.eq_ofNat_of_zero_le hb.1
    obtain ⟨j, h⟩ := name_tab ⟨n, by omega⟩ e
    exact absurd h (hj j.1 (by have := j.2; omega))

theorem in_name (c : Int) (w : World) :
    Calls Trym.prog 5 #[.int .i32 c] w fun e w' => e = .returned (.bool (nameC c)) ∧ w' = w := by
  go_enter Trym.func5, Trym.ntmps5
  go_wp2
  go_loop [3] (fun i => ∃ k : Nat, k ≤ 63 ∧ i = .int .i64 k ∧ ∀ j : Nat, j < k → ((table.data[j]?.getD 0).toNat : Int) ≠ c) (fun i => 63 - (intOf i).toNat)
  case atStart => exact ⟨0, by omega, rfl, fun j hj => absurd hj (by omega)⟩
  case round =>
    obtain ⟨k, hk, rfl, hj⟩ := hrel
    have HJ : Hid (∀ j : Nat, j < k → ((table.data[j]?.getD 0).toNat : Int) ≠ c) := hj
    clear hj
    by_cases hlt : k < 63
    · go_wp2
      · go_ret
        exact ⟨ret_bool (hit hlt ‹_›).symm, rfl⟩
      · go_round
        case rel => exact ⟨k + 1, by omega, by go_num, miss hlt ‹_› HJ.out⟩
        case measure => simp [intOf]; omega
    · go_wp2
      go_ret
      exact ⟨ret_bool (out hlt HJ.out).symm, rfl⟩

theorem zz_not_name (c : Int) (w : World) :
    Calls Trym.prog 4 #[.int .i32 c] w fun e w' => e = .returned (.bool (!nameC c)) ∧ w' = w := by
  go_enter Trym.func4, Trym.ntmps4
  go_wp2_with fail
  refine (not_name _ _).mono ?_
  rintro e w' ⟨rfl, rfl⟩
  go_wp2
  go_ret
  exact ⟨rfl, rfl⟩

theorem walk (a0 : Int) (w0 : (Lit.int .i32 a0).wf = true) (w : World) :
    Calls Trym.prog 3 #[.int .i32 a0] w fun e w' => e = .returned (.bool true) ∧ Grown w w' := by
  go_enter Trym.func3, Trym.ntmps3
  go_wp2_with fail
  refine (zz_not_name _ _).mono ?_
  rintro e w' ⟨rfl, rfl⟩
  go_wp2_with fail
  refine (in_name _ _).mono ?_
  rintro e w' ⟨rfl, rfl⟩
  go_wp2
  go_ret
  exact ⟨ret_bool (by simp), Grown.refl _⟩

/-! ### THE ROW's STEP: WRITTEN OUT: LEAVE IT -/
set_option maxRecDepth 100000 in
theorem lifted (os : Os) (started : os.Started) (H : Type) (enc : TypeId × Value → H) :
    ReturnsInHanded {} Trym.checked os 3 .any (Rows.fnNotNameCharIsOutsideTheNameTableSpec.pre6 enc Trym.prog Trym.f3 Rows.fnNotNameCharIsOutsideTheNameTableRow.domain false) (Rows.fnNotNameCharIsOutsideTheNameTableSpec.post enc Trym.prog Trym.f3 false true false false) := by
  refine returnsInHanded_of_change (C := Trym.checked) own started (by kernel_rfl) Trym.func3
    (ChangeSpec.witness6 (enc := enc) (C := Trym.checked) false ⟨#[], #[.int .i32 0], []⟩ 8 (by kernel_rfl) (by kernel_rfl) (by kernel_rfl) (by kernel_rfl)) ?_
  intro W base args ds gs before hval0 hW hcnd _
  have hval : ∀ (j : Nat) t v, Trym.f3.params[j]? = some t → args[j]? = some v → Value.okWide Trym.prog W .any base t v := hval0
  have hW' := hW
  obtain ⟨p, q, hA0, hV, rfl, hfz, hnd⟩ := hW
  have hA : DataW.TrodAll enc Trym.prog W 0 (fun _ => true) true Trym.f3.params.toList args.toList ds p := hA0
  rw [Trym.params3] at hA hval
  obtain ⟨v0, vs0, d0, ds0, p0, q0, hargs, rfl, rfl, h0, r0⟩ := trodAll_cons hA
  obtain ⟨rfl, rfl, rfl⟩ := trodAll_nil r0
  obtain rfl : args = #[v0] := by cases args; simp_all
  obtain ⟨rfl, rfl⟩ := trodVars_none hV
  obtain ⟨a0, rfl, rfl, rfl, w0⟩ := open_int Trym.underlying21 (hval 0 21 v0 rfl rfl) h0
  clear hA0 hval0
  simp only [List.append_nil] at hW'
  refine (walk a0 w0 W).mono fun e W' ⟨he, hg⟩ => ?_
  subst he
  exact ⟨_, rfl, post_of_same (pa := []) (pv := []) hW' (fun _ _ _ => (trodAll_cons_mk (shut_bool Trym.underlying4 _) trodAll_mk0)) (fun sp _ => (trodAll_cons_mk (shut_int Trym.underlying21 w0) trodAll_mk0)) (fun _ _ => rfl) rfl
    (hg.frame _) hg.2.1 (ok_one (by kernel_rfl) rfl (okWide_bool_mk Trym.underlying4 _))⟩

theorem over : Rows.fnNotNameCharIsOutsideTheNameTableRow.holds Trym.pinned (OpenSpec.ofChange Rows.fnNotNameCharIsOutsideTheNameTableSpec) :=
  OpenClaim.holds_of_wide 3 Trym.f3 rfl rfl rfl rfl rfl rfl rfl ⟨rfl, rfl, rfl, rfl, rfl⟩ rfl rfl rfl rfl rfl (by kernel_rfl) Trym.func3 (by kernel_rfl)
    (of_decide_eq_true (by kernel_rfl)) (by unfold Func.isWrapper; first | (rw [if_pos (by decide +kernel)]; kernel_rfl) | (rw [if_neg (by decide +kernel)]; exact ⟨rfl, rfl⟩))
    (fun os started H enc _ => lifted os started H enc)

/-- The given statement. -/
theorem proved : Rows.FnNotNameCharIsOutsideTheNameTableSaid :=
  over
end Go.Proofs.Qxb6609559aMods.fnNotNameCharIsOutsideTheNameTable
