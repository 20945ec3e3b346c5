import Derived.Test.Qxb6603189aRows
import Derived.Test.Qxb6603189aFold
import Derived.Test.Qxb6603189aFlip
import Derived.WalkKit
import Derived.OpenShut
import Derived.Below
import Derived.WalkSpells
import Derived.Laws.IdiomStrings
import Derived.Laws.BytesArg
import Derived.Laws.BitsAllLaws
import Derived.Deep.DeepCutAuto
namespace Go.Proofs.Qxb6603189a.fnEqualFoldBlindToCaseOnly
open Go.ChangeShapes Go.WideShapes Go.RowKit
/-! ### STEP 1: THE WALK: the Go text returns true, and writes nothing that was there -/
set_option maxHeartbeats 400000 in
theorem bytes_any (a : ByteArray) (c n : Int) (w : World) :
    Calls Try.prog 21 #[.string a, .int .u8 c, .int .i64 n] w fun e w' => ∃ v : Bool, e = .returned (.bool v) ∧ w' = w := by
  go_enter Try.func21, Try.ntmps21
  go_wp2
  all_goals
    go_ret
    exact ⟨_, rfl, rfl⟩

theorem below_drewN {B : Nat} {w w1 : World} (h : Below B w w1) (n : Nat) : Below B w (w1.drewN n) := by
  induction n with
  | zero => exact h
  | succ n ih => exact ih.drew

theorem eqf_flip (a : ByteArray) : Fold.eqf a (strOfNums (Fold.flipped a)) = true := by
  have hs : (strOfNums (Fold.flipped a)).size = a.size := by rw [strOfNums_size, Fold.flipped_length]
  refine Fold.eqf_of hs.symm fun j hj => ?_
  have hb : 0 ≤ (Fold.flipped a).getD j 0 ∧ (Fold.flipped a).getD j 0 ≤ 255 := by
    rw [Fold.flipped_getD a j hj]
    exact Fold.flip_bd (Fold.byteAt_bd a j)
  rw [Fold.byteAt_of_nums (Fold.flipped a) (strOfNums (Fold.flipped a)) (strOfNums_data _) j (by rw [Fold.flipped_length]; exact hj) hb, Fold.flipped_getD a j hj, Fold.low_flip]

theorem longer_size (a : ByteArray) (t : Nat) (c : Int) (h : t ≤ a.size) : (a.extract 0 t ++ strOfNums [c] ++ a.extract t a.size).size = a.size + 1 := by
  rw [ByteArray.size_append, ByteArray.size_append, ByteArray.size_extract, ByteArray.size_extract, strOfNums_size]
  simp only [List.length_cons, List.length_nil]
  omega

/-- the bytes of a string as numbers -/
def numsOf (a : ByteArray) : List Int := a.data.toList.map fun c => (c.toNat : Int)

theorem numsOf_length (a : ByteArray) : (numsOf a).length = a.size := by
  unfold numsOf
  rw [List.length_map]
  rfl

theorem numsOf_getD (a : ByteArray) (k : Nat) (h : k < a.size) : (numsOf a).getD k 0 = Fold.byteAt a k := by
  have hk : k < a.data.toList.length := by simpa using h
  unfold Fold.byteAt numsOf
  rw [List.getD_eq_getElem?_getD, List.getD_eq_getElem?_getD, List.getElem?_map, List.getElem?_eq_getElem hk]
  rfl

/-- '[]byte(a)': a new block; its first cells are a's bytes; none of them is frozen -/
theorem bytes_of (a : ByteArray) (w : World) : ∃ (cap : Nat) (W : World), (convert 9 31 (.string a)).run Try.prog w = .ok (.slice (some ⟨w.heap.size, 0, none⟩) a.size cap) W ∧
    (∀ j, j < a.size → W.cell? ⟨w.heap.size, j, none⟩ = some (.int .u8 ((numsOf a).getD j 0))) ∧ (∀ j, j < a.size → W.frozen? ⟨w.heap.size, j, none⟩ = false) ∧ a.size ≤ cap ∧ Below w.heap.size w W := by
  have hcap : a.size ≤ grownCap w a.size 0 5 := grownCap_ge w a.size 0 5
  have hsz : (bytesRow a (grownCap w a.size 0 5)).size = grownCap w a.size 0 5 := by
    unfold bytesRow
    rw [Array.size_append, Array.size_map, Array.size_replicate]
    show a.size + _ = _
    omega
  refine ⟨_, _, run_bytes_of_string (P := Try.prog) w 9 31 5 a Try.underlying9 Try.underlying31 Try.underlying5, ?_, ?_, hcap, ?_⟩
  · intro j hj
    have hd : j < a.data.size := hj
    have h1 := World.cell?_alloc_mark w.drew (bytesRow a (grownCap w a.size 0 5)) 5 ((bytesRow a (grownCap w a.size 0 5)).size, (bytesRow a (grownCap w a.size 0 5)).size + 1) j
    rw [bytesRow_at a _ j hd] at h1
    rw [numsOf_getD a j hj, ← Fold.byteAt_get a j hj]
    exact h1
  · intro j hj
    have h1 := World.frozen?_alloc_mark w.drew (bytesRow a (grownCap w a.size 0 5)) 5 (bytesRow a (grownCap w a.size 0 5)).size ((bytesRow a (grownCap w a.size 0 5)).size + 1) j
    rw [hsz] at h1
    have h2 : (decide (grownCap w a.size 0 5 ≤ j) && decide (j < grownCap w a.size 0 5 + 1)) = false := by
      rw [decide_eq_false (by omega)]
      rfl
    rw [hsz]
    exact h1.trans h2
  · exact ((Below.refl _ _).drew).alloc (Nat.le_refl _) _

/-- 'string(b)' behind one store -/
theorem conv_set (g cap : Nat) (a : ByteArray) (W : World) (x : Int) (k : Nat) (hc : ∀ j, j < a.size → W.cell? ⟨g, j, none⟩ = some (.int .u8 ((numsOf a).getD j 0))) :
    (convert 31 9 (.slice (some ⟨g, 0, none⟩) a.size cap)).run Try.prog (W.setCell ⟨g, k, none⟩ (.int .u8 x)) = .ok (.string (strOfNums ((numsOf a).set k x))) (W.setCell ⟨g, k, none⟩ (.int .u8 x)) := by
  refine run_convert_bytes_arg (P := Try.prog) _ 31 5 Try.underlying31 Try.underlying5 g 0 a.size cap _ (by rw [List.length_set]; exact numsOf_length a) (fun i hi => ?_) 9 Try.underlying9
  rw [Nat.zero_add]
  by_cases e : i = k
  · subst e
    rw [World.cell?_setCell_same _ _ _ (hc i hi), getD_set_same _ _ _ _ (by rw [numsOf_length]; exact hi)]
  · rw [World.cell?_setCell_other _ _ _ _ (fun h => e (congrArg Addr.off h).symm), getD_set_other _ _ _ _ _ e]
    exact hc i hi

theorem xor_top (c : Nat) (h : c < 256) : (c ^^^ 128 = c + 128 ∧ c < 128) ∨ ((c ^^^ 128) + 128 = c ∧ 128 ≤ c) := by
  have H : ∀ c : Fin 256, (c.val ^^^ 128 = c.val + 128 ∧ c.val < 128) ∨ ((c.val ^^^ 128) + 128 = c.val ∧ 128 ≤ c.val) := by decide +kernel
  exact H ⟨c, h⟩

theorem top_seen (a : ByteArray) (k : Nat) (hk : k < a.size) (h2 : ¬ (65 ≤ (a[k].toNat : Int) ∧ (a[k].toNat : Int) ≤ 90)) :
    Fold.eqf a (strOfNums ((numsOf a).set k (bits BinOp.xor IntKind.u8 (a[k].toNat : Int) 128))) = false := by
  have hlt := a[k].toNat_lt
  have hx : bits BinOp.xor IntKind.u8 (a[k].toNat : Int) 128 = ((a[k].toNat ^^^ 128 : Nat) : Int) := u8_xor_nat _ 128 hlt (by decide)
  have ht := xor_top a[k].toNat hlt
  have hkl : k < (numsOf a).length := by rw [numsOf_length]; exact hk
  have hg := getD_set_same (numsOf a) k (bits BinOp.xor IntKind.u8 (a[k].toNat : Int) 128) 0 hkl
  refine Fold.eqf_at (by rw [strOfNums_size, List.length_set, numsOf_length]) k hk ?_
  rw [Fold.byteAt_of_nums _ _ (strOfNums_data _) k (by rw [List.length_set]; exact hkl) (by rw [hg, hx]; omega), hg, hx, ← Fold.byteAt_get a k hk]
  exact Fold.low_top h2 (by omega)

set_option maxRecDepth 100000 in
set_option maxHeartbeats 400000 in
theorem walk (a0 : ByteArray) (a1 : Int) (a2 : Int) (w0 : a0.size ≤ maxLen) (w1 : (Lit.int .u8 a1).wf = true) (w2 : (Lit.int .i64 a2).wf = true) (w : World) :
    Calls Try.prog 8 #[.string a0, .int .u8 a1, .int .i64 a2] w fun e w' => e = .returned (.bool true) ∧ Below w.heap.size w w' := by
  have hb1 := bounds_u8 w1
  have hb2 := bounds_i64 w2
  clear w1 w2
  by_cases g0 : a0.size ≤ 262144
  · have HF1 := hid (eqf_flip a0)
    have HF2 := hid (show Fold.eqf (strOfNums (Fold.flipped a0)) a0 = true from by rw [Fold.eqf_comm]; exact eqf_flip a0)
    go_enter Try.func8, Try.ntmps8
    go_wp2_with fail
    refine (bytes_any a0 a1 a2 _).mono ?_
    rintro e w' ⟨v, rfl, hw⟩
    subst hw
    cases v
    · go_wp2
      go_ret
      exact ⟨rfl, Below.refl _ _⟩
    · go_upto_if 21 with fail
      go_cut [2] (fun v wc => ∃ t : Int, v = .int .i64 t ∧ 0 ≤ t ∧ t ≤ 9223372036854775807 ∧ Below w'.heap.size w' wc)
      case first =>
        go_wp2_with fail
        all_goals go_meet
        all_goals
          case rel => exact ⟨_, rfl, by omega, by omega, Below.refl _ _⟩
      case rest =>
        obtain ⟨t, rfl, ht0, ht1, hbel⟩ := hcut
        have BC := hid hbel
        clear hbel
        go_upto_if 25 with fail
        go_cut [2] (fun v wx => ∃ t : Nat, v = .int .i64 t ∧ t ≤ a0.size ∧ Below w'.heap.size w' wx)
        case first =>
          go_wp2_with fail
          all_goals go_meet
          · case rel => exact ⟨_, rfl, Nat.le_refl _, BC.out⟩
          · case rel => exact ⟨t.toNat, by go_num, by omega, BC.out⟩
        case rest =>
          clear ht0 ht1 BC
          clear t
          obtain ⟨t, rfl, ht, hbel⟩ := hcut
          have BD := hid hbel
          clear hbel
          go_wp2_with fail
          refine (flip_any a0 (by omega) _).mono ?_
          rintro e wd ⟨rfl, hb2⟩
          have B2 := hid (BD.out.trans (hb2.mono BD.out.size))
          clear hb2 BD
          go_wp2_with fail
          refine (zzfold_is true a0 _ w0 HF1.out _).mono ?_
          rintro e we ⟨rfl, n1, hw1⟩
          have B3 := hid (show Below w'.heap.size w' we from by rw [hw1]; exact below_drewN B2.out n1)
          clear hw1 B2 HF1
          go_wp2_with fail
          refine (zzfold_is true _ a0 (by rw [strOfNums_size, Fold.flipped_length]; exact w0) HF2.out _).mono ?_
          rintro e wf ⟨rfl, n2, hw2⟩
          have B4 := hid (show Below w'.heap.size w' wf from by rw [hw2]; exact below_drewN B3.out n2)
          clear hw2 B3 HF2
          go_upto_region 12 with fail
          go_cut [8] (fun v wx => ∃ L : ByteArray, v = .string L ∧ L.size = a0.size + 1 ∧ Below w'.heap.size w' wx)
          case first =>
            have hconv := run_convert_bytes_arg (P := Try.prog) (wf.alloc (Obj.cells #[Value.int IntKind.u8 a1] 5)).drew 31 5 Try.underlying31 Try.underlying5 wf.heap.size 0 1 1 [a1] rfl (fun i hi => by
              obtain rfl : i = 0 := by omega
              simp) 9 Try.underlying9
            have hsz1 : (strOfNums [a1]).size = 1 := strOfNums_size _
            go_region
            all_goals (go_wp2_with fail; go_meet)
            all_goals
              case rel => exact ⟨_, rfl, longer_size a0 t a1 ht, (B4.out.alloc B4.out.size _).drew⟩
          case rest =>
            clear B4
            obtain ⟨L, rfl, hL, hbel⟩ := hcut
            have BE := hid hbel
            have HL1 := hid (show Fold.eqf a0 L = false from Fold.eqf_len (by omega))
            have HL2 := hid (show Fold.eqf L a0 = false from Fold.eqf_len (by omega))
            have hLm : L.size ≤ maxLen := by unfold maxLen; omega
            clear hbel hL
            go_wp2_with fail
            refine (zzfold_is false a0 L w0 HL1.out _).mono ?_
            rintro e wg ⟨rfl, n3, hw3⟩
            have B5 := hid (show Below w'.heap.size w' wg from by rw [hw3]; exact below_drewN BE.out n3)
            clear hw3 BE HL1
            go_wp2_with fail
            refine (zzfold_is false L a0 hLm HL2.out _).mono ?_
            rintro e wh ⟨rfl, n4, hw4⟩
            have B6 := hid (show Below w'.heap.size w' wh from by rw [hw4]; exact below_drewN B5.out n4)
            clear hw4 B5 HL2 hLm
            go_wp2
            go_loopw [9] (fun v wr => ∃ k : Nat, v = .int .i64 k ∧ k ≤ a0.size ∧ Below w'.heap.size w' wr) (fun v _ => a0.size - (intOf v).toNat)
            case atStart => exact ⟨0, rfl, Nat.zero_le _, B6.out⟩
            case round =>
              clear B6
              obtain ⟨k, rfl, hk, hbel⟩ := hrel
              have B7 := hid hbel
              clear hbel
              by_cases hlt : k < a0.size
              · have hbd := Fold.byte_bd a0[k]
                by_cases hlet : (97 ≤ (a0[k].toNat : Int) ∧ (a0[k].toNat : Int) ≤ 122) ∨ (65 ≤ (a0[k].toNat : Int) ∧ (a0[k].toNat : Int) ≤ 90)
                · have HLT := hid hlet
                  clear hlet
                  go_wp2_with fail
                  refine (letter_yes _ HLT.out _).mono ?_
                  rintro e wi ⟨rfl, hwi⟩
                  have HWI := hid hwi
                  clear hwi
                  go_wp2
                  go_roundw
                  case rel => exact ⟨k + 1, by go_num, by omega, by rw [HWI.out]; exact B7.out⟩
                  case measure => simp [intOf]; omega
                · have HN1 := hid (show ¬ (97 ≤ (a0[k].toNat : Int) ∧ (a0[k].toNat : Int) ≤ 122) from fun h => hlet (Or.inl h))
                  have HN2 := hid (show ¬ (65 ≤ (a0[k].toNat : Int) ∧ (a0[k].toNat : Int) ≤ 90) from fun h => hlet (Or.inr h))
                  clear hlet
                  go_wp2_with fail
                  refine (letter_no _ HN1.out HN2.out _).mono ?_
                  rintro e wi ⟨rfl, hwi⟩
                  have B8 := hid (show Below w'.heap.size w' wi from by rw [hwi]; exact B7.out)
                  clear hwi B7
                  obtain ⟨cap, W2, hrun, hcell, hfree, hcap, hbel2⟩ := bytes_of a0 wi
                  have HC := hid hcell
                  have HF := hid hfree
                  have B9 := hid (B8.out.trans (hbel2.mono B8.out.size))
                  have c1 := hcell k hlt
                  have f1 := hfree k hlt
                  have hz := hid B8.out.size
                  clear hcell hfree hbel2 B8
                  have hconv := conv_set wi.heap.size cap a0 W2 (bits BinOp.xor IntKind.u8 (a0[k].toNat : Int) 128) k HC.out
                  have HS1 := hid (top_seen a0 k hlt HN2.out)
                  clear HN1 HN2
                  go_wp2_with fail
                  refine (zzfold_is false a0 _ w0 HS1.out _).mono ?_
                  rintro e wj ⟨rfl, n5, hw5⟩
                  have BF := hid (show Below w'.heap.size w' wj from by rw [hw5]; exact below_drewN (B9.out.setCell hz.out _) n5)
                  clear hw5
                  go_wp2_with fail
                  refine (zzfold_is false _ a0 (by rw [strOfNums_size, List.length_set, numsOf_length]; exact w0) (by rw [Fold.eqf_comm]; exact HS1.out) _).mono ?_
                  rintro e wk ⟨rfl, n6, hw6⟩
                  have BG := hid (show Below w'.heap.size w' wk from by rw [hw6]; exact below_drewN BF.out n6)
                  clear hw6
                  go_wp2
                  go_ret
                  exact ⟨rfl, BG.out⟩
              · go_wp2
                go_ret
                exact ⟨rfl, B7.out⟩
  · go_enter Try.func8, Try.ntmps8
    go_wp2_with fail
    refine (bytes_any a0 a1 a2 _).mono ?_
    rintro e w' ⟨v, rfl, hw⟩
    subst hw
    cases v <;> go_wp2 <;> go_ret <;> exact ⟨rfl, Below.refl _ _⟩

end Go.Proofs.Qxb6603189a.fnEqualFoldBlindToCaseOnly
