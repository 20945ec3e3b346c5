import Derived.Test.Qxb6603189aRows
import Derived.Test.Qxb6603189aPlain
import Derived.Test.Qxb6603189aRowsOwn
import Derived.Test.Qxb6603189aUpper
import Derived.WalkKit
import Derived.WalkSpells
import Derived.Laws.BytesArg
namespace Go.Proofs.Qxb6603189a
open Go.RowKit


set_option maxHeartbeats 400000 in
theorem flip_any (s : ByteArray) (hs : s.size ≤ 1048576) (w : World) :
    Calls Try.prog 22 #[.string s] w fun e w' => e = .returned (.string (strOfNums (Fold.flipped s))) ∧ Below w.heap.size w w' := by
  obtain ⟨i0, hi, hz0, hz1, hz2⟩ := info_parts Try.info5
  go_enter Try.func22, Try.ntmps22
  go_wp2_with (at_make; refine wpList_make_full _ rfl _ _ 31 rfl w.heap.size 5 i0 (.int .u8 0) 1 Try.underlying31 hi hz0 hz1 _ _ _ _ s.size rfl rfl rfl rfl ?c1 ?c2 ?c3 ?_)
  case c1 => rw [hz2]; omega
  case c2 => unfold maxLen; omega
  case c3 => exact Nat.le_refl _
  intro w1 hown hgrow
  have hbuf := Buf.made hown
  have hbel : Below w.heap.size w w1 := (Below.refl _ _).grown hgrow (Nat.le_refl _) (fun k hk => by cases hk)
  clear hown hgrow hi hz0 hz1 hz2
  go_wp2
  go_loopw [4] (fun v wr => ∃ (k : Nat) (zs : List Int), v = .int .i64 k ∧ k ≤ s.size ∧ Buf wr w.heap.size 5 .u8 w.heap.size s.size zs ∧ (∀ j, j < k → zs.getD j 0 = Fold.flip (Fold.byteAt s j)) ∧ Below w.heap.size w wr)
    (fun v _ => s.size - (intOf v).toNat)
  case atStart => exact ⟨0, _, rfl, Nat.zero_le _, hbuf, fun j hj => absurd hj (Nat.not_lt_zero _), hbel⟩
  case round =>
    clear hbuf hbel
    obtain ⟨k, zs, rfl, hk, hbuf, hfill, hbel⟩ := hrel
    have HF := hid hfill
    have HB := hid hbuf
    have HL := hid hbel
    clear hfill hbel
    by_cases hlt : k < s.size
    · have hbd := Fold.byte_bd s[k]
      have HA := hid (Fold.byteAt_get s k hlt)
      have hcell := hbuf.cell k hlt
      have hfree := hbuf.free k
      clear hbuf
      go_wp2
      all_goals
        go_roundw
        case rel =>
          exact ⟨k + 1, _, by go_num, by omega, HB.out.store k _, fill_step (by rw [HB.out.1]; exact hlt) HF.out (by rw [← HA.out]; unfold Fold.flip; first | rw [if_pos (by omega)] | rw [if_neg (by omega), if_pos (by omega)] | rw [if_neg (by omega), if_neg (by omega)]),
            HL.out.setCell (Nat.le_refl _) _⟩
        case measure => simp [intOf]; omega
    · have hconv := run_convert_bytes_arg (P := Try.prog) wr 31 5 Try.underlying31 Try.underlying5 w.heap.size 0 s.size s.size zs hbuf.1 (fun i hi => by rw [Nat.zero_add]; exact hbuf.cell i hi) 9 Try.underlying9
      have hzs : zs = Fold.flipped s := ext_getD (by rw [hbuf.1, Fold.flipped_length]) fun j hj => by
        rw [hbuf.1] at hj
        rw [HF.out j (by omega), Fold.flipped_getD s j hj]
      have HZ := hid hzs
      clear hzs hbuf
      go_wp2
      go_ret
      exact ⟨by rw [HZ.out]; rfl, HL.out⟩

set_option maxHeartbeats 400000 in
theorem letter_yes (c : Int) (h : (97 ≤ c ∧ c ≤ 122) ∨ (65 ≤ c ∧ c ≤ 90)) (w : World) :
    Calls Try.prog 23 #[.int .u8 c] w fun e w' => e = .returned (.bool true) ∧ w' = w := by
  rcases h with ⟨h1, h2⟩ | ⟨h1, h2⟩
  · go_enter Try.func23, Try.ntmps23
    go_wp2
    go_ret
    exact ⟨rfl, rfl⟩
  · have h3 : ¬ 97 ≤ c := by omega
    go_enter Try.func23, Try.ntmps23
    go_wp2
    go_ret
    exact ⟨rfl, rfl⟩

set_option maxHeartbeats 400000 in
theorem letter_no (c : Int) (h : ¬ (97 ≤ c ∧ c ≤ 122)) (h' : ¬ (65 ≤ c ∧ c ≤ 90)) (w : World) :
    Calls Try.prog 23 #[.int .u8 c] w fun e w' => e = .returned (.bool false) ∧ w' = w := by
  by_cases g : 97 ≤ c
  · have g1 : decide (c ≤ 122) = false := by simp; omega
    have g2 : 65 ≤ c := by omega
    have g3 : decide (c ≤ 90) = false := by simp; omega
    clear h h'
    go_enter Try.func23, Try.ntmps23
    go_wp2
    go_ret
    exact ⟨rfl, rfl⟩
  · by_cases g1 : 65 ≤ c
    · have g3 : decide (c ≤ 90) = false := by simp; omega
      clear h h'
      go_enter Try.func23, Try.ntmps23
      go_wp2
      go_ret
      exact ⟨rfl, rfl⟩
    · clear h h'
      go_enter Try.func23, Try.ntmps23
      go_wp2
      go_ret
      exact ⟨rfl, rfl⟩
end Go.Proofs.Qxb6603189a
