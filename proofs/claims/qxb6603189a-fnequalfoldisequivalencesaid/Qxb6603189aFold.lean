import Derived.Test.Qxb6603189aRows
import Derived.Test.Qxb6603189aPlain
import Derived.WalkKit
import Derived.WalkSpells
import Derived.Deep.QuietTactic
import Derived.BigQuiet
namespace Go.Proofs.Qxb6603189a
open Go.RowKit

theorem ret_int {k : IntKind} {a b : Int} (h : a = b) : Ending.returned (.int k a) = .returned (.int k b) := by rw [h]

set_option maxHeartbeats 400000 in
theorem lower_any (c : Int) (h0 : 0 ≤ c) (h1 : c ≤ 255) (w : World) :
    Calls Try.prog 27 #[.int .u8 c] w fun e w' => e = .returned (.int .u8 (Fold.low c)) ∧ w' = w := by
  by_cases h : 65 ≤ c
  · by_cases h' : c ≤ 90
    · rw [Fold.low_hit h h']
      go_enter Try.func27, Try.ntmps27
      go_wp2
      go_ret
      exact ⟨ret_int (by omega), rfl⟩
    · rw [Fold.low_miss (by omega)]
      go_enter Try.func27, Try.ntmps27
      go_wp2
      go_ret
      exact ⟨rfl, rfl⟩
  · rw [Fold.low_miss (by omega)]
    go_enter Try.func27, Try.ntmps27
    go_wp2
    go_ret
    exact ⟨rfl, rfl⟩



theorem step {p : Nat → Prop} {k : Nat} (h : ∀ j, j < k → p j) (hk : p k) : ∀ j, j < k + 1 → p j := fun j hj => by
  by_cases e : j = k
  · rw [e]; exact hk
  · exact h j (by omega)

set_option maxHeartbeats 400000 in
theorem fold_any (a b : ByteArray) (ha : a.size ≤ maxLen) (w : World) :
    Calls Try.prog 25 #[.string a, .string b] w fun e w' => e = .returned (.bool (Fold.eqf a b)) ∧ ∃ n, w' = w.drewN n := by
  unfold maxLen at ha
  by_cases hs : a.size = b.size
  · have h1 : ((a.size : Int) != (b.size : Int)) = false := by simp [hs]
    have HS : Hid (a.size = b.size) := hs
    have hs1 : a.size ≤ b.size := by omega
    have hs2 : b.size ≤ a.size := by omega
    clear hs
    go_enter Try.func25, Try.ntmps25
    go_wp2
    go_loopw [13] (fun v wr => ∃ k n : Nat, v = .int .i64 k ∧ k ≤ a.size ∧ wr = w.drewN n ∧ ∀ j, j < k → Fold.low (Fold.byteAt a j) = Fold.low (Fold.byteAt b j))
      (fun v _ => a.size - (intOf v).toNat)
    case atStart => exact ⟨0, 0, rfl, Nat.zero_le _, rfl, fun j hj => absurd hj (Nat.not_lt_zero _)⟩
    case round =>
      obtain ⟨k, n, rfl, hk, hwr, hfold⟩ := hrel
      have HW : Hid (wr = w.drewN n) := hwr
      clear hwr
      have HF : Hid (∀ j, j < k → Fold.low (Fold.byteAt a j) = Fold.low (Fold.byteAt b j)) := hfold
      clear hfold
      by_cases hlt : k < a.size
      · have hltb : k < b.size := by omega
        have hbd1 := Fold.byte_bd a[k]
        have hbd2 := Fold.byte_bd b[k]
        have hA := Fold.byteAt_get a k hlt
        have hB := Fold.byteAt_get b k hltb
        have HA : Hid _ := hA
        have HB : Hid _ := hB
        clear hA hB
        by_cases hne : (a[k].toNat : Int) = (b[k].toNat : Int)
        · have hq : ((a[k].toNat : Int) != (b[k].toNat : Int)) = false := by simp [hne]
          have HE : Hid _ := hne
          clear hne
          go_wp2
          go_quiet (first | (go_at_call 27; refine Calls.quiet_of_same (lower_any _ (by omega) (by omega) _)))
          go_wp2
          go_roundw
          case rel => exact ⟨k + 1, n + nq, by go_num, by omega, by rw [HW.out, World.drewN_drewN], fun j hj => step HF.out (by rw [← HA.out, ← HB.out, HE.out]) j hj⟩
          case measure => simp [intOf]; omega
        · have hq : ((a[k].toNat : Int) != (b[k].toNat : Int)) = true := by rw [bne_iff_ne]; exact hne
          clear hne
          by_cases hl : Fold.low (a[k].toNat : Int) = Fold.low (b[k].toNat : Int)
          · have hq2 : (Fold.low (a[k].toNat : Int) != Fold.low (b[k].toNat : Int)) = false := by simp [hl]
            have HL : Hid _ := hl
            clear hl
            go_wp2
            go_quiet (first | (go_at_call 27; refine Calls.quiet_of_same (lower_any _ (by omega) (by omega) _)))
            go_wp2
            go_roundw
            case rel => exact ⟨k + 1, n + nq, by go_num, by omega, by rw [HW.out, World.drewN_drewN], fun j hj => step HF.out (by rw [← HA.out, ← HB.out, HL.out]) j hj⟩
            case measure => simp [intOf]; omega
          · have hq2 : (Fold.low (a[k].toNat : Int) != Fold.low (b[k].toNat : Int)) = true := by rw [bne_iff_ne]; exact hl
            have HL : Hid (Fold.eqf a b = false) := Fold.eqf_at HS.out k hlt (by rw [← HA.out, ← HB.out]; exact hl)
            clear hl
            go_wp2
            go_quiet (first | (go_at_call 27; refine Calls.quiet_of_same (lower_any _ (by omega) (by omega) _)))
            go_wp2
            go_ret
            exact ⟨by rw [HL.out]; rfl, n + nq, by rw [HW.out, World.drewN_drewN]⟩
      · have HT : Hid (Fold.eqf a b = true) := Fold.eqf_of HS.out fun j hj => HF.out j (by omega)
        go_wp2
        go_ret
        exact ⟨by rw [HT.out]; rfl, n, HW.out⟩
  · have h1 : ((a.size : Int) != (b.size : Int)) = true := by simp; omega
    rw [Fold.eqf_len hs]
    clear hs
    go_enter Try.func25, Try.ntmps25
    go_wp2
    go_ret
    exact ⟨rfl, 0, rfl⟩

set_option maxHeartbeats 400000 in
theorem zzfold_any (a b : ByteArray) (ha : a.size ≤ maxLen) (w : World) :
    Calls Try.prog 18 #[.string a, .string b] w fun e w' => e = .returned (.bool (Fold.eqf a b)) ∧ ∃ n, w' = w.drewN n := by
  go_enter Try.func18, Try.ntmps18
  go_wp2_with (go_at_call 25; refine (fold_any a b ha _).mono ?_; rintro e w' ⟨rfl, n, rfl⟩)
  go_ret
  exact ⟨rfl, n, rfl⟩

theorem zzfold_is (v : Bool) (a b : ByteArray) (ha : a.size ≤ maxLen) (h : Fold.eqf a b = v) (w : World) :
    Calls Try.prog 18 #[.string a, .string b] w fun e w' => e = .returned (.bool v) ∧ ∃ n, w' = w.drewN n := by
  rw [← h]
  exact zzfold_any a b ha w
end Go.Proofs.Qxb6603189a
