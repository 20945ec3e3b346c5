/- 'Rows.FnEqualFoldMatchesUpperModelSaid': the frame is the kit's shell (proof-skeleton.mjs) for this program, its last line turned to 'Below'; the walk is ours. -/
import Derived.Test.Qxb6603189aRows
import Derived.Test.Qxb6603189aFold
import Derived.Test.Qxb6603189aUpper
import Derived.WalkKit
import Derived.ProofKit
import Derived.OpenShut
import Derived.ShutString
import Derived.Below
namespace Go.Proofs.Qxb6603189a.fnEqualFoldMatchesUpperModel
open Go.ChangeShapes Go.WideShapes Go.ChangeAt Go.RowKit
open Go.ChangeMaps (open_string shut_string)
set_option linter.unusedVariables false      -- a walk need not use every 'w<i>' (that an integer argument fits its kind)

theorem own : ownKnob Try.prog.godebug = none := by kernel_rfl

/-! ### STEP 1: THE WALK: the Go text returns true, and writes nothing that was there -/
set_option maxHeartbeats 400000 in
theorem bytes_any (a b : ByteArray) (w : World) :
    Calls Try.prog 17 #[.string a, .string b] w fun e w' => ∃ v : Bool, e = .returned (.bool v) ∧ w' = w := by
  go_enter Try.func17, Try.ntmps17
  go_wp2
  all_goals
    go_ret
    exact ⟨_, rfl, rfl⟩

theorem below_drewN {B : Nat} {w w1 : World} (h : Below B w w1) (n : Nat) : Below B w (w1.drewN n) := by
  induction n with
  | zero => exact h
  | succ n ih => exact ih.drew

theorem ret_bool {a b : Bool} (h : a = b) : Ending.returned (.bool a) = .returned (.bool b) := by rw [h]

theorem answers (a b : ByteArray) : (Fold.eqf a b == ((strOfNums (Fold.raised a)).toList == (strOfNums (Fold.raised b)).toList)) = true := by
  rw [ByteArray.toList_eq, ByteArray.toList_eq, strOfNums_data, strOfNums_data, beq_iff_eq, Bool.eq_iff_iff, beq_iff_eq, Fold.same_models]
  unfold Fold.eqf
  rw [beq_iff_eq]

set_option maxHeartbeats 400000 in
theorem walk (a0 : ByteArray) (a1 : ByteArray) (w0 : a0.size ≤ maxLen) (w1 : a1.size ≤ maxLen) (w : World) :
    Calls Try.prog 6 #[.string a0, .string a1] w fun e w' => e = .returned (.bool true) ∧ Below w.heap.size w w' := by
  go_enter Try.func6, Try.ntmps6
  go_wp2_with fail
  refine (bytes_any a0 a1 _).mono ?_
  rintro e w' ⟨v, rfl, hw⟩
  subst hw
  cases v
  · go_wp2
    go_ret
    exact ⟨rfl, Below.refl _ _⟩
  · by_cases g0 : a0.size ≤ 524288
    · by_cases g1 : a1.size ≤ 524288
      · go_wp2_with fail
        refine (zzfold_any a0 a1 w0 _).mono ?_
        rintro e wa ⟨rfl, n1, hw1⟩
        have B1 := hid (show Below w'.heap.size w' wa from by rw [hw1]; exact below_drewN (Below.refl _ _) n1)
        clear hw1
        go_wp2_with fail
        refine (upper_any a0 (by omega) _).mono ?_
        rintro e wb ⟨rfl, hb2⟩
        have B2 := hid (show Below w'.heap.size w' wb from B1.out.trans (hb2.mono B1.out.size))
        clear hb2
        go_wp2_with fail
        refine (upper_any a1 (by omega) _).mono ?_
        rintro e wc ⟨rfl, hb3⟩
        have B3 := hid (show Below w'.heap.size w' wc from B2.out.trans (hb3.mono B2.out.size))
        clear hb3
        go_wp2
        go_ret
        exact ⟨ret_bool (answers a0 a1), B3.out⟩
      · go_wp2
        go_ret
        exact ⟨rfl, Below.refl _ _⟩
    · go_wp2
      go_ret
      exact ⟨rfl, Below.refl _ _⟩

/-! ### THE ROW's STEP: WRITTEN OUT: LEAVE IT -/
set_option maxRecDepth 100000 in
theorem lifted (os : Os) (started : os.Started) (H : Type) (enc : TypeId × Value → H) :
    ReturnsInHanded {} Try.checked os 6 .any (Rows.fnEqualFoldMatchesUpperModelSpec.pre6 enc Try.prog Try.f6 Rows.fnEqualFoldMatchesUpperModelRow.domain false) (Rows.fnEqualFoldMatchesUpperModelSpec.post enc Try.prog Try.f6 false true false false) := by
  refine returnsInHanded_of_change (C := Try.checked) own started (by kernel_rfl) Try.func6
    (ChangeSpec.witness6 (enc := enc) (C := Try.checked) false ⟨#[], #[.string ByteArray.empty, .string ByteArray.empty], []⟩ 8 (by kernel_rfl) (by kernel_rfl) (by kernel_rfl) (by kernel_rfl)) ?_
  intro W base args ds gs before hval0 hW hcnd _
  have hval : ∀ (j : Nat) t v, Try.f6.params[j]? = some t → args[j]? = some v → Value.okWide Try.prog W .any base t v := hval0
  have hW' := hW
  obtain ⟨p, q, hA0, hV, rfl, hfz, hnd⟩ := hW
  have hA : DataW.TrodAll enc Try.prog W 0 (fun _ => true) true Try.f6.params.toList args.toList ds p := hA0
  rw [Try.params6] at hA hval
  obtain ⟨v0, vs0, d0, ds0, p0, q0, hargs, rfl, rfl, h0, r0⟩ := trodAll_cons hA
  obtain ⟨v1, vs1, d1, ds1, p1, q1, rfl, rfl, rfl, h1, r1⟩ := trodAll_cons r0
  obtain ⟨rfl, rfl, rfl⟩ := trodAll_nil r1
  obtain rfl : args = #[v0, v1] := by cases args; simp_all
  obtain ⟨rfl, rfl⟩ := trodVars_none hV
  obtain ⟨a0, rfl, rfl, rfl, w0⟩ := open_string Try.underlying9 (hval 0 9 v0 rfl rfl) h0
  obtain ⟨a1, rfl, rfl, rfl, w1⟩ := open_string Try.underlying9 (hval 1 9 v1 rfl rfl) h1
  clear hA0 hval0
  simp only [List.append_nil] at hW'
  refine (walk a0 a1 w0 w1 W).mono fun e W' ⟨he, hg⟩ => ?_
  subst he
  exact ⟨_, rfl, _, _, _, [], _, [], hW', trodAll_mk1 (shut_bool Try.underlying4 _), (trodAll_cons_mk (shut_string Try.underlying9 w0) (trodAll_cons_mk (shut_string Try.underlying9 w1) trodAll_mk0)), rfl, hg.frame _, fun h => by cases h⟩

theorem over : Rows.fnEqualFoldMatchesUpperModelRow.holds Try.pinned (OpenSpec.ofChange Rows.fnEqualFoldMatchesUpperModelSpec) :=
  OpenClaim.holds_of_wide 6 Try.f6 rfl rfl rfl rfl rfl rfl rfl ⟨rfl, rfl, rfl, rfl, rfl⟩ rfl rfl rfl rfl rfl (by kernel_rfl) Try.func6 (by kernel_rfl)
    (of_decide_eq_true (by kernel_rfl)) (by unfold Func.isWrapper; first | (rw [if_pos (by decide +kernel)]; kernel_rfl) | (rw [if_neg (by decide +kernel)]; exact ⟨rfl, rfl⟩))
    (fun os started H enc _ => lifted os started H enc)

/-- ████ THE STATEMENT ████ -/
theorem proved : Rows.FnEqualFoldMatchesUpperModelSaid :=
  over
#print axioms proved
end Go.Proofs.Qxb6603189a.fnEqualFoldMatchesUpperModel
