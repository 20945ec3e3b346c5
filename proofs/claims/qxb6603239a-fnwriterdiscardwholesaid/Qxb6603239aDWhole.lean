/- FnWriterDiscardWhole (4): the walk. -/
import Derived.Test.Qxb6603239aDiscard
namespace Go.Proofs.Qxb6603239a.fnWriterDiscardWhole
open Go.RowKit

set_option maxHeartbeats 400000 in
theorem bytes_any (a : Option Addr) (l c : Nat) (x y z : Int) (w : World) :
    Calls Try.prog 15 #[.slice a l c, .int .i64 x, .int .i64 y, .int .i64 z] w fun e w' => ∃ v : Bool, e = .returned (.bool v) ∧ w' = w := by
  go_enter Try.func15, Try.ntmps15
  go_wp2
  all_goals
    go_ret
    exact ⟨_, rfl, rfl⟩

set_option maxRecDepth 100000 in
set_option maxHeartbeats 2000000 in
theorem walk_in (L cap0 S O N : Nat) (a0 : Option Addr) (f : Nat → Int) (w : World) (hab : a0 = none → L = 0 ∧ cap0 = 0) (hrow : Row w a0 L f) (hcap0 : L ≤ cap0) (hL : L ≤ 524288) (hS : S ≤ 65536) (hO : O ≤ L) (hN : N ≤ L - O) :
    Calls Try.prog 4 #[.slice a0 L cap0, .int .i64 (S : Int), .int .i64 (O : Int), .int .i64 (N : Int)] w fun e w' => e = .returned (.bool true) ∧ Below w.heap.size w w' := by
  have HAB := hid hab
  have HRW := hid hrow
  clear hab hrow
  go_enter Try.func4, Try.ntmps4
  go_wp2_with fail
  refine (bytes_any a0 L cap0 S O N _).mono ?_
  rintro e w' ⟨v, rfl, hw⟩
  subst hw
  cases v
  · go_wp2
    go_ret
    exact ⟨rfl, Below.refl _ _⟩
  · go_wp2_with fail
    refine (spare_any a0 L cap0 S f _ hL hS HRW.out HAB.out).mono ?_
    rintro e w1 ⟨a', rfl, hbuf, hb1⟩
    have B1 := hid hb1
    have HBF := hid hbuf
    clear hb1 hbuf
    go_wp2_with fail
    refine (newWriter_any a' L (L + S) (O : Int) _).mono ?_
    rintro e w2 ⟨rfl, hw2⟩
    have B2 := hid (show Below w'.heap.size w' w2 from by rw [hw2]; exact B1.out.alloc B1.out.size _)
    have HW2 := hid (show Writer w2 w1.heap.size (.slice a' L (L + S)) O from by rw [hw2]; exact writer_new _ _ _)
    have HBF2 := hid (show Bufd w2 w'.heap.size a' L (L + S) f from by rw [hw2]; exact HBF.out.alloc _)
    have HBL := hid HBF.out.lt
    clear hw2 HBF
    go_wp2_with fail
    by_cases hk : O + N < L
    · have hbx := HBF2.out
      rcases hbx with ⟨_, h0, _⟩ | ⟨gb, F, rfl, hg1, hg2, hrow, hF⟩
      · omega
      · have hgl := HBL.out gb rfl
        by_cases hh : (L + S) / 2 < O + N
        · refine (discard_move w1.heap.size gb L (L + S) O N f F _ (by omega) (by omega) hk hh (by omega) HW2.out hrow hF).mono ?_
          rintro e w3 ⟨rfl, hw3, hk3, F', hrow3, hF3⟩
          have B3 := hid (B2.out.trans (hk3.below B1.out.size hg1))
          have HW3 := hid hw3
          have HB3 := hid (show Bufd w3 w'.heap.size (some ⟨gb, 0, none⟩) (L - (O + N)) (L + S) (fun i => f (O + N + i)) from Or.inr ⟨gb, F', rfl, hg1, by omega, hrow3, hF3⟩)
          clear hw3 hk3 hrow3 hF3 hrow hF HBF2 HW2 B2 HBL hg2
          go_wp2_with fail
          refine (state_any w1.heap.size _ _ _ _ _ HW3.out.c0 HW3.out.c1).mono ?_
          rintro e w4 ⟨rfl, nd, hw4⟩
          have B4 := hid (show Below w'.heap.size w' w4 from by rw [hw4]; exact below_drewN B3.out nd)
          have HB4 := hid (show Row w4 (some ⟨gb, 0, none⟩) (L - (O + N)) (fun i => f (O + N + i)) from HB3.out.row.below (B := w3.heap.size) (by rw [hw4]; exact below_drewN (Below.refl _ _) nd) (Nat.le_refl _))
          have HD4 := hid (HRW.out.below B4.out (Nat.le_refl _))
          clear hw4
          go_wp2_with fail
          refine (same_any _ _ _ _ _ (fun i => f (O + N + i)) _ (by omega) HB4.out (HD4.out.cut hcap0 (fun _ => rfl))).mono ?_
          rintro e w5 ⟨rfl, nd5, hw5⟩
          have B5 := hid (show Below w'.heap.size w' w5 from by rw [hw5]; exact below_drewN B4.out nd5)
          clear hw5
          have e1 : (((L - (O + N) : Nat) : Int) == 0) = false := by rw [beq_eq_false_iff_ne]; omega
          have e2 : (L : Int) + (S : Int) < 2 * ((O : Int) + (N : Int)) := by omega
          go_wp2
          go_ret
          exact ⟨rfl, B5.out⟩
        · refine (discard_keep w1.heap.size L (L + S) O N (some ⟨gb, 0, none⟩) _ (by omega) hk (by omega) HW2.out).mono ?_
          rintro e w3 ⟨rfl, hw3, hk3⟩
          have B3 := hid (B2.out.trans (hk3.below B1.out.size B1.out.size))
          have HW3 := hid hw3
          have HB3 := hid (show Bufd w3 w'.heap.size (some ⟨gb, 0, none⟩) L (L + S) f from Or.inr ⟨gb, F, rfl, hg1, by omega, hk3.row hrow (by omega) (by omega), hF⟩)
          clear hw3 hk3 hrow hF HBF2 HW2 B2 HBL hg2
          go_wp2_with fail
          refine (state_any w1.heap.size _ _ _ _ _ HW3.out.c0 HW3.out.c1).mono ?_
          rintro e w4 ⟨rfl, nd, hw4⟩
          have B4 := hid (show Below w'.heap.size w' w4 from by rw [hw4]; exact below_drewN B3.out nd)
          have HB4 := hid (show Row w4 (some ⟨gb, 0, none⟩) L f from HB3.out.row.below (B := w3.heap.size) (by rw [hw4]; exact below_drewN (Below.refl _ _) nd) (Nat.le_refl _))
          have HD4 := hid (HRW.out.below B4.out (Nat.le_refl _))
          clear hw4
          go_wp2_with fail
          refine (same_any _ _ _ _ _ (fun i => f (O + N + i)) _ (by omega) (HB4.out.cut (cap := L + S) (by omega) (fun _ => by rw [Option.map_some, Addr.add_lit, Nat.zero_add])) (HD4.out.cut hcap0 (fun _ => rfl))).mono ?_
          rintro e w5 ⟨rfl, nd5, hw5⟩
          have B5 := hid (show Below w'.heap.size w' w5 from by rw [hw5]; exact below_drewN B4.out nd5)
          have HB5 := hid (HB4.out.below (B := w4.heap.size) (w1 := w5) (by rw [hw5]; exact below_drewN (Below.refl _ _) nd5) (Nat.le_refl _))
          have HD5 := hid (HRW.out.below B5.out (Nat.le_refl _))
          clear hw5
          have e1 : (((L - (O + N) : Nat) : Int) == 0) = false := by rw [beq_eq_false_iff_ne]; omega
          have e2 : 2 * ((O : Int) + (N : Int)) ≤ (L : Int) + (S : Int) := by omega
          go_wp2_with fail
          refine (same_any _ _ _ _ _ f _ (by omega) HB5.out HD5.out).mono ?_
          rintro e w6 ⟨rfl, nd6, hw6⟩
          have B6 := hid (show Below w'.heap.size w' w6 from by rw [hw6]; exact below_drewN B5.out nd6)
          clear hw6
          go_wp2
          go_ret
          exact ⟨rfl, B6.out⟩
    · have hLe : L - (O + N) = 0 := by omega
      by_cases hbig : 65536 < L + S
      · refine (discard_drop w1.heap.size L (L + S) O N a' _ (by omega) (by omega) (by omega) hbig HW2.out).mono ?_
        rintro e w3 ⟨rfl, hw3, hk3⟩
        have B3 := hid (B2.out.trans (hk3.below B1.out.size B1.out.size))
        have HW3 := hid hw3
        clear hw3 hk3 HBF2 HW2 B2 HBL
        go_wp2_with fail
        refine (state_any w1.heap.size _ _ _ _ _ HW3.out.c0 HW3.out.c1).mono ?_
        rintro e w4 ⟨rfl, nd, hw4⟩
        have B4 := hid (show Below w'.heap.size w' w4 from by rw [hw4]; exact below_drewN B3.out nd)
        clear hw4
        have hnil := fun (w : World) => Lib.run_eql_slice_nil (P := Try.prog) w 22 5 none 0 0 0 0 Try.underlying22
        go_wp2_with fail
        all_goals
          refine (same_empty _ _ _ _ _).mono ?_
          rintro e w5 ⟨rfl, nd5, hw5⟩
          have B5 := hid (show Below w'.heap.size w' w5 from by rw [hw5]; exact below_drewN B4.out nd5)
          clear hw5
          go_wp2
          go_ret
          exact ⟨rfl, B5.out⟩
      · refine (discard_empty w1.heap.size L (L + S) O N a' _ (by omega) (by omega) (by omega) HW2.out).mono ?_
        rintro e w3 ⟨rfl, hw3, hk3⟩
        have B3 := hid (B2.out.trans (hk3.below B1.out.size B1.out.size))
        have HW3 := hid hw3
        clear hw3 hk3 HBF2 HW2 B2 HBL
        go_wp2_with fail
        refine (state_any w1.heap.size _ _ _ _ _ HW3.out.c0 HW3.out.c1).mono ?_
        rintro e w4 ⟨rfl, nd, hw4⟩
        have B4 := hid (show Below w'.heap.size w' w4 from by rw [hw4]; exact below_drewN B3.out nd)
        clear hw4
        have hnil := fun (w : World) (n c : Nat) => Lib.run_eql_slice_nil (P := Try.prog) w 22 5 a' n c 0 0 Try.underlying22
        go_wp2_with fail
        all_goals
          refine (same_empty _ _ _ _ _).mono ?_
          rintro e w5 ⟨rfl, nd5, hw5⟩
          have B5 := hid (show Below w'.heap.size w' w5 from by rw [hw5]; exact below_drewN B4.out nd5)
          clear hw5
          go_wp2
          go_ret
          exact ⟨rfl, B5.out⟩

set_option maxHeartbeats 400000 in
theorem walk_out (L cap0 : Nat) (sp off n : Int) (a0 : Option Addr) (w : World) (h : 524288 < L ∨ sp < 0 ∨ 65536 < sp ∨ off < 0 ∨ (L : Int) < off ∨ n < 0 ∨ (L : Int) - off < n) :
    Calls Try.prog 4 #[.slice a0 L cap0, .int .i64 sp, .int .i64 off, .int .i64 n] w fun e w' => e = .returned (.bool true) ∧ Below w.heap.size w w' := by
  by_cases g1 : 524288 < L
  · clear h
    go_enter Try.func4, Try.ntmps4
    go_wp2_with fail
    refine (bytes_any a0 L cap0 sp off n _).mono ?_
    rintro e w' ⟨v, rfl, hw⟩
    subst hw
    cases v <;> go_wp2 <;> go_ret <;> exact ⟨rfl, Below.refl _ _⟩
  · by_cases g2 : sp < 0 ∨ 65536 < sp
    · clear h
      rcases g2 with g2 | g2
      all_goals
        go_enter Try.func4, Try.ntmps4
        go_wp2_with fail
        refine (bytes_any a0 L cap0 sp off n _).mono ?_
        rintro e w' ⟨v, rfl, hw⟩
        subst hw
        cases v <;> go_wp2 <;> go_ret <;> exact ⟨rfl, Below.refl _ _⟩
    · by_cases g3 : off < 0 ∨ (L : Int) < off
      · have k1 : 0 ≤ sp := by omega
        have k2 : sp ≤ 65536 := by omega
        clear h g2
        rcases g3 with g3 | g3
        all_goals
          go_enter Try.func4, Try.ntmps4
          go_wp2_with fail
          refine (bytes_any a0 L cap0 sp off n _).mono ?_
          rintro e w' ⟨v, rfl, hw⟩
          subst hw
          cases v <;> go_wp2 <;> go_ret <;> exact ⟨rfl, Below.refl _ _⟩
      · have k1 : 0 ≤ sp := by omega
        have k2 : sp ≤ 65536 := by omega
        have k3 : 0 ≤ off := by omega
        have k4 : off ≤ (L : Int) := by omega
        have g4 : n < 0 ∨ (L : Int) - off < n := by omega
        clear h g2 g3
        rcases g4 with g4 | g4
        all_goals
          go_enter Try.func4, Try.ntmps4
          go_wp2_with fail
          refine (bytes_any a0 L cap0 sp off n _).mono ?_
          rintro e w' ⟨v, rfl, hw⟩
          subst hw
          cases v <;> go_wp2 <;> go_ret <;> exact ⟨rfl, Below.refl _ _⟩

theorem walk_any (L cap0 : Nat) (sp off n : Int) (a0 : Option Addr) (f : Nat → Int) (w : World) (hab : a0 = none → L = 0 ∧ cap0 = 0) (hrow : Row w a0 L f) (hcap0 : L ≤ cap0) :
    Calls Try.prog 4 #[.slice a0 L cap0, .int .i64 sp, .int .i64 off, .int .i64 n] w fun e w' => e = .returned (.bool true) ∧ Below w.heap.size w w' := by
  by_cases h : 524288 < L ∨ sp < 0 ∨ 65536 < sp ∨ off < 0 ∨ (L : Int) < off ∨ n < 0 ∨ (L : Int) - off < n
  · exact walk_out L cap0 sp off n a0 w h
  · obtain ⟨S, rfl⟩ := Int.eq_ofNat_of_zero_le (show 0 ≤ sp by omega)
    obtain ⟨O, rfl⟩ := Int.eq_ofNat_of_zero_le (show 0 ≤ off by omega)
    obtain ⟨N, rfl⟩ := Int.eq_ofNat_of_zero_le (show 0 ≤ n by omega)
    exact walk_in L cap0 S O N a0 f w hab hrow hcap0 (by omega) (by omega) (by omega) (by omega)
end Go.Proofs.Qxb6603239a.fnWriterDiscardWhole
