/- 'Rows.FnEqualFoldIsEquivalenceSaid': the frame is the kit's shell (proof-skeleton.mjs) for this program; the walk is ours. -/
import Derived.Test.Qxb6603189aRows
import Derived.Test.Qxb6603189aFold
import Derived.WalkKit
import Derived.ProofKit
import Derived.OpenShut
import Derived.ShutString
namespace Go.Proofs.Qxb6603189a.fnEqualFoldIsEquivalence
open Go.ChangeShapes Go.WideShapes Go.ChangeAt Go.RowKit
open Go.ChangeMaps (open_string shut_string)
set_option linter.unusedVariables false      -- a walk need not use every 'w<i>' (that an integer argument fits its kind)

theorem own : ownKnob Try.prog.godebug = none := by kernel_rfl

/-! ### STEP 1: THE WALK: the Go text returns true -/
set_option maxHeartbeats 400000 in
theorem bytes_any (a b c : ByteArray) (w : World) :
    Calls Try.prog 20 #[.string a, .string b, .string c] w fun e w' => ∃ v : Bool, e = .returned (.bool v) ∧ w' = w := by
  go_enter Try.func20, Try.ntmps20
  go_wp2
  all_goals
    go_ret
    exact ⟨_, rfl, rfl⟩

theorem grown_drewN {w w1 : World} (h : Grown w w1) (n : Nat) : Grown w (w1.drewN n) := by
  induction n with
  | zero => exact h
  | succ n ih => exact ih.drew

set_option maxHeartbeats 400000 in
theorem walk (a0 : ByteArray) (a1 : ByteArray) (a2 : ByteArray) (w0 : a0.size ≤ maxLen) (k1 : a1.size ≤ maxLen) (_k2 : a2.size ≤ maxLen) (w : World) :
    Calls Try.prog 7 #[.string a0, .string a1, .string a2] w fun e w' => e = .returned (.bool true) ∧ Grown w w' := by
  have HR : Hid (Fold.eqf a0 a0 = true) := Fold.eqf_refl a0
  have HC : Hid (Fold.eqf a1 a0 = Fold.eqf a0 a1) := Fold.eqf_comm a1 a0
  have HT : Hid (Fold.eqf a0 a1 = true → Fold.eqf a1 a2 = true → Fold.eqf a0 a2 = true) := Fold.eqf_trans
  go_enter Try.func7, Try.ntmps7
  go_wp2_with fail
  refine (bytes_any a0 a1 a2 _).mono ?_
  rintro e w' ⟨v, rfl, hw⟩
  subst hw
  cases v
  · go_wp2
    go_ret
    exact ⟨rfl, Grown.refl _⟩
  · by_cases g0 : a0.size ≤ 262144
    · by_cases g1 : a1.size ≤ 262144
      · by_cases g2 : a2.size ≤ 262144
        · go_wp2_with fail
          refine (zzfold_is true a0 a0 w0 HR.out _).mono ?_
          rintro e w1 ⟨rfl, n1, hw1⟩
          have G1 : Hid (Grown w' w1) := by rw [hw1]; exact grown_drewN (Grown.refl _) n1
          clear hw1
          go_wp2_with fail
          rcases hab : Fold.eqf a0 a1 with _ | _
          · have Hab : Hid (Fold.eqf a0 a1 = false) := hab
            clear hab
            refine (zzfold_is false a0 a1 w0 Hab.out _).mono ?_
            rintro e w2 ⟨rfl, n2, hw2⟩
            have G2 : Hid (Grown w' w2) := by rw [hw2]; exact grown_drewN G1.out n2
            clear hw2
            go_wp2_with fail
            refine (zzfold_is false a1 a0 k1 (by rw [HC.out, Hab.out]) _).mono ?_
            rintro e w3 ⟨rfl, n3, hw3⟩
            have G3 : Hid (Grown w' w3) := by rw [hw3]; exact grown_drewN G2.out n3
            clear hw3
            go_wp2
            go_ret
            exact ⟨rfl, G3.out⟩
          · have Hab : Hid (Fold.eqf a0 a1 = true) := hab
            clear hab
            refine (zzfold_is true a0 a1 w0 Hab.out _).mono ?_
            rintro e w2 ⟨rfl, n2, hw2⟩
            have G2 : Hid (Grown w' w2) := by rw [hw2]; exact grown_drewN G1.out n2
            clear hw2
            go_wp2_with fail
            refine (zzfold_is true a1 a0 k1 (by rw [HC.out, Hab.out]) _).mono ?_
            rintro e w3 ⟨rfl, n3, hw3⟩
            have G3 : Hid (Grown w' w3) := by rw [hw3]; exact grown_drewN G2.out n3
            clear hw3
            go_wp2_with fail
            rcases hbc : Fold.eqf a1 a2 with _ | _
            · have Hbc : Hid (Fold.eqf a1 a2 = false) := hbc
              clear hbc
              refine (zzfold_is false a1 a2 k1 Hbc.out _).mono ?_
              rintro e w4 ⟨rfl, n4, hw4⟩
              have G4 : Hid (Grown w' w4) := by rw [hw4]; exact grown_drewN G3.out n4
              clear hw4
              go_wp2
              go_ret
              exact ⟨rfl, G4.out⟩
            · have Hbc : Hid (Fold.eqf a1 a2 = true) := hbc
              clear hbc
              refine (zzfold_is true a1 a2 k1 Hbc.out _).mono ?_
              rintro e w4 ⟨rfl, n4, hw4⟩
              have G4 : Hid (Grown w' w4) := by rw [hw4]; exact grown_drewN G3.out n4
              clear hw4
              go_wp2_with fail
              refine (zzfold_is true a0 a2 w0 (HT.out Hab.out Hbc.out) _).mono ?_
              rintro e w5 ⟨rfl, n5, hw5⟩
              have G5 : Hid (Grown w' w5) := by rw [hw5]; exact grown_drewN G4.out n5
              clear hw5
              go_wp2
              go_ret
              exact ⟨rfl, G5.out⟩
        · go_wp2
          go_ret
          exact ⟨rfl, Grown.refl _⟩
      · go_wp2
        go_ret
        exact ⟨rfl, Grown.refl _⟩
    · go_wp2
      go_ret
      exact ⟨rfl, Grown.refl _⟩

/-! ### THE ROW's STEP: WRITTEN OUT: LEAVE IT -/
set_option maxRecDepth 100000 in
theorem lifted (os : Os) (started : os.Started) (H : Type) (enc : TypeId × Value → H) :
    ReturnsInHanded {} Try.checked os 7 .any (Rows.fnEqualFoldIsEquivalenceSpec.pre6 enc Try.prog Try.f7 Rows.fnEqualFoldIsEquivalenceRow.domain false) (Rows.fnEqualFoldIsEquivalenceSpec.post enc Try.prog Try.f7 false true false false) := by
  refine returnsInHanded_of_change (C := Try.checked) own started (by kernel_rfl) Try.func7
    (ChangeSpec.witness6 (enc := enc) (C := Try.checked) false ⟨#[], #[.string ByteArray.empty, .string ByteArray.empty, .string ByteArray.empty], []⟩ 8 (by kernel_rfl) (by kernel_rfl) (by kernel_rfl) (by kernel_rfl)) ?_
  intro W base args ds gs before hval0 hW hcnd _
  have hval : ∀ (j : Nat) t v, Try.f7.params[j]? = some t → args[j]? = some v → Value.okWide Try.prog W .any base t v := hval0
  have hW' := hW
  obtain ⟨p, q, hA0, hV, rfl, hfz, hnd⟩ := hW
  have hA : DataW.TrodAll enc Try.prog W 0 (fun _ => true) true Try.f7.params.toList args.toList ds p := hA0
  rw [Try.params7] at hA hval
  obtain ⟨v0, vs0, d0, ds0, p0, q0, hargs, rfl, rfl, h0, r0⟩ := trodAll_cons hA
  obtain ⟨v1, vs1, d1, ds1, p1, q1, rfl, rfl, rfl, h1, r1⟩ := trodAll_cons r0
  obtain ⟨v2, vs2, d2, ds2, p2, q2, rfl, rfl, rfl, h2, r2⟩ := trodAll_cons r1
  obtain ⟨rfl, rfl, rfl⟩ := trodAll_nil r2
  obtain rfl : args = #[v0, v1, v2] := by cases args; simp_all
  obtain ⟨rfl, rfl⟩ := trodVars_none hV
  obtain ⟨a0, rfl, rfl, rfl, w0⟩ := open_string Try.underlying9 (hval 0 9 v0 rfl rfl) h0
  obtain ⟨a1, rfl, rfl, rfl, w1⟩ := open_string Try.underlying9 (hval 1 9 v1 rfl rfl) h1
  obtain ⟨a2, rfl, rfl, rfl, w2⟩ := open_string Try.underlying9 (hval 2 9 v2 rfl rfl) h2
  clear hA0 hval0
  simp only [List.append_nil] at hW'
  refine (walk a0 a1 a2 w0 w1 w2 W).mono fun e W' ⟨he, hg⟩ => ?_
  subst he
  exact ⟨_, rfl, post_of_same (pa := []) (pv := []) hW' (fun _ _ _ => (trodAll_cons_mk (shut_bool Try.underlying4 _) trodAll_mk0)) (fun sp _ => (trodAll_cons_mk (shut_string Try.underlying9 w0) (trodAll_cons_mk (shut_string Try.underlying9 w1) (trodAll_cons_mk (shut_string Try.underlying9 w2) trodAll_mk0)))) (fun _ _ => rfl) rfl
    (hg.frame _) hg.2.1 (ok_one (by kernel_rfl) rfl (okWide_bool_mk Try.underlying4 _))⟩

theorem over : Rows.fnEqualFoldIsEquivalenceRow.holds Try.pinned (OpenSpec.ofChange Rows.fnEqualFoldIsEquivalenceSpec) :=
  OpenClaim.holds_of_wide 7 Try.f7 rfl rfl rfl rfl rfl rfl rfl ⟨rfl, rfl, rfl, rfl, rfl⟩ rfl rfl rfl rfl rfl (by kernel_rfl) Try.func7 (by kernel_rfl)
    (of_decide_eq_true (by kernel_rfl)) (by unfold Func.isWrapper; first | (rw [if_pos (by decide +kernel)]; kernel_rfl) | (rw [if_neg (by decide +kernel)]; exact ⟨rfl, rfl⟩))
    (fun os started H enc _ => lifted os started H enc)

/-- ████ THE STATEMENT ████ -/
theorem proved : Rows.FnEqualFoldIsEquivalenceSaid :=
  over
#print axioms proved
end Go.Proofs.Qxb6603189a.fnEqualFoldIsEquivalence
