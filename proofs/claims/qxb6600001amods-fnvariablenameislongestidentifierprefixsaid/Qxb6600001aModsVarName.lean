/- The callees' contracts: isNameByte, zzBytes, variableName, ZZvariableName. -/
import Derived.Test.Qxb6600001aModsRows
import Derived.WalkKit
import Derived.ProofKit
import Derived.OpenShut
import Derived.ShutString
import Derived.Deep.Light
namespace Go.Proofs.Qxb6600001aMods.fnVariableNameIsLongestIdentifierPrefix
open Go.ChangeShapes Go.WideShapes Go.ChangeAt Go.RowKit
open Go.ChangeMaps (open_string shut_string)
set_option linter.unusedVariables false      -- a walk need not use every 'w<i>' (that an integer argument fits its kind)

/-- May the byte c stand in a name, as its first byte or not? -/
def nb (c : Int) (first : Bool) : Bool := decide (c = 95 ∨ (97 ≤ c ∧ c ≤ 122) ∨ (65 ≤ c ∧ c ≤ 90) ∨ (first = false ∧ 48 ≤ c ∧ c ≤ 57))

/-- The byte at place i. -/
def byteAt (s : ByteArray) (i : Nat) : Int := ((s.data.toList.getD i 0).toNat : Int)

theorem byteAt_get (s : ByteArray) (k : Nat) (h : k < s.size) : byteAt s k = (s[k].toNat : Int) := by
  unfold byteAt
  rw [List.getD_eq_getElem?_getD, List.getElem?_eq_getElem (by simpa using h)]
  rfl

theorem ret_bool {a b : Bool} (h : a = b) : Ending.returned (.bool a) = .returned (.bool b) := by rw [h]
theorem ret_string {a b : ByteArray} (h : a = b) : Ending.returned (.string a) = .returned (.string b) := by rw [h]

/-- r is the name that s begins with. -/
structure Named (s r : ByteArray) : Prop where
  le : r.size ≤ s.size
  pre : s.extract 0 r.size = r
  ok : ∀ i, i < r.size → nb (byteAt r i) (decide (i = 0)) = true
  stop : r.size < s.size → nb (byteAt s r.size) (decide (r.size = 0)) = false

theorem is_name (c : Int) (first : Bool) (w : World) :
    Calls Trym.prog 17 #[.int .u8 c, .bool first] w fun e w' => e = .returned (.bool (nb c first)) ∧ w' = w := by
  cases first
  all_goals
    go_enter Trym.func17, Trym.ntmps17
    go_wp2
    all_goals
      go_ret
      exact ⟨ret_bool (by unfold nb; first | (symm; simp at *; omega) | (rw [Bool.eq_iff_iff]; simp at *; omega)), rfl⟩

theorem bytes_ok (s : ByteArray) (hs : s.size ≤ maxLen) (w : World) :
    Calls Trym.prog 15 #[.string s] w fun e w' => e = .returned (.bool (decide (s.size ≤ 1048576))) ∧ w' = w := by
  unfold maxLen at hs
  by_cases h : s.size ≤ 1048576
  · have hd : Hid (decide (s.size ≤ 1048576) = true) := decide_eq_true h
    go_enter Trym.func15, Trym.ntmps15
    go_wp2
    go_ret
    exact ⟨ret_bool hd.out.symm, rfl⟩
  · have hd : Hid (decide (s.size ≤ 1048576) = false) := decide_eq_false h
    go_enter Trym.func15, Trym.ntmps15
    go_wp2
    go_ret
    exact ⟨ret_bool hd.out.symm, rfl⟩

theorem all_yes (s : ByteArray) (k : Nat) (hk : k < s.size) (h : nb (s[k].toNat : Int) (decide (k = 0)) = true) (hj : ∀ j, j < k → nb (byteAt s j) (decide (j = 0)) = true) :
    ∀ j, j < k + 1 → nb (byteAt s j) (decide (j = 0)) = true := by
  intro j hlt
  by_cases e : j = k
  · subst e; rw [byteAt_get s j hk]; exact h
  · exact hj j (by omega)

theorem size_pre (s : ByteArray) (k : Nat) (hk : k ≤ s.size) : (s.extract 0 k).size = k := by simp; omega

theorem byteAt_pre (s : ByteArray) (k i : Nat) (hi : i < k) (hk : k ≤ s.size) : byteAt (s.extract 0 k) i = byteAt s i := by
  unfold byteAt
  rw [show (s.extract 0 k).data.toList = s.data.toList.take k from by simp [ByteArray.data_extract]]
  simp [List.getD_eq_getElem?_getD, hi]

theorem named_pre (s : ByteArray) (k : Nat) (hk : k ≤ s.size) (hj : ∀ j, j < k → nb (byteAt s j) (decide (j = 0)) = true)
    (h : ∀ hlt : k < s.size, nb (s[k].toNat : Int) (decide (k = 0)) = false) : Named s (s.extract 0 k) where
  le := by rw [size_pre s k hk]; exact hk
  pre := by rw [size_pre s k hk]
  ok := fun i hi => by
    rw [size_pre s k hk] at hi
    rw [byteAt_pre s k i hi hk]
    exact hj i hi
  stop := fun hlt => by
    rw [size_pre s k hk] at hlt ⊢
    rw [byteAt_get s k hlt]
    exact h hlt

theorem named_all (s : ByteArray) (k : Nat) (hk : ¬ k < s.size) (hk' : k ≤ s.size) (hj : ∀ j, j < k → nb (byteAt s j) (decide (j = 0)) = true) : Named s s := by
  have e : s.extract 0 s.size = s := by simp
  have h := named_pre s s.size (Nat.le_refl _) (fun j hlt => hj j (by omega)) (fun hlt => absurd hlt (by omega))
  rw [e] at h
  exact h

set_option maxHeartbeats 1000000 in
theorem var_name (s : ByteArray) (hs : s.size ≤ maxLen) (w : World) :
    Calls Trym.prog 22 #[.string s] w fun e w' => ∃ r, Named s r ∧ e = .returned (.string r) ∧ w' = w := by
  unfold maxLen at hs
  go_enter Trym.func22, Trym.ntmps22
  go_wp2
  go_loop [3] (fun i => ∃ k : Nat, k ≤ s.size ∧ i = .int .i64 k ∧ ∀ j, j < k → nb (byteAt s j) (decide (j = 0)) = true) (fun i => s.size - (intOf i).toNat)
  case atStart => exact ⟨0, by omega, rfl, fun j hj => absurd hj (by omega)⟩
  case round =>
    obtain ⟨k, hk, rfl, hj⟩ := hrel
    have HJ : Hid (∀ j, j < k → nb (byteAt s j) (decide (j = 0)) = true) := hj
    clear hj
    by_cases hlt : k < s.size
    · go_wp2
      all_goals first
        | (go_round
           case rel => exact ⟨k + 1, by omega, by go_num, all_yes s k hlt (by go_light; clear HJ; unfold nb; simp at *; omega) HJ.out⟩
           case measure => simp [intOf]; omega)
        | (go_ret
           exact ⟨_, named_pre s k hk HJ.out (fun _ => by go_light; clear HJ; unfold nb; simp at *; omega), rfl, rfl⟩)
    · go_wp2
      go_ret
      exact ⟨_, named_all s k hlt hk HJ.out, rfl, rfl⟩

theorem zz_var_name (s : ByteArray) (hs : s.size ≤ maxLen) (w : World) :
    Calls Trym.prog 16 #[.string s] w fun e w' => ∃ r, Named s r ∧ e = .returned (.string r) ∧ w' = w := by
  go_enter Trym.func16, Trym.ntmps16
  go_wp2_with fail
  refine (var_name _ hs _).mono ?_
  rintro e w' ⟨r, hr, rfl, rfl⟩
  go_wp2
  go_ret
  exact ⟨r, hr, rfl, rfl⟩

end Go.Proofs.Qxb6600001aMods.fnVariableNameIsLongestIdentifierPrefix
