/- FnWriterDiscardSplit (5): the walk. -/
import Derived.Test.Qxb6603239aShape
namespace Go.Proofs.Qxb6603239a.fnWriterDiscardSplit
open Go.RowKit

theorem st_blocks {w w' : World} {gw gb C L K : Nat} {f : Nat → Int} {a : Option Addr} {len cap o : Nat} {F : Nat → Int} (h : St w gw gb C L K f a len cap o F)
    (e1 : w'.heap[gw]? = w.heap[gw]?) (e2 : w'.heap[gb]? = w.heap[gb]?) : St w' gw gb C L K f a len cap o F := by
  refine ⟨World.rowIs.of_block h.writer e1, ?_, h.off, h.left, h.bytes, h.most⟩
  rcases h.buf with hb | ⟨h1, h2, h3, G, hr, hG⟩
  · exact Or.inl hb
  · exact Or.inr ⟨h1, h2, h3, G, hr.of_block e2, hG⟩

/-- a writer newly made -/
theorem st_new {w w2 : World} {base L S O : Nat} {f : Nat → Int} {a : Option Addr} (hO : O ≤ L) (hbase : base ≤ w.heap.size) (hb : Bufd w base a L (L + S) f)
    (hw : w2 = w.alloc (.cells #[.slice a L (L + S), .int .i64 (O : Int)] 59)) :
    ∃ gb, base ≤ gb ∧ gb ≤ w.heap.size ∧ St w2 w.heap.size gb (L + S) L O f a L (L + S) O f := by
  subst hw
  have hwr := writer_new w (.slice a L (L + S)) O
  have hb2 := hb.alloc (.cells #[.slice a L (L + S), .int .i64 (O : Int)] 59)
  rcases hb2 with hn | ⟨g, F, h1, h2, h3, h4, h5⟩
  · exact ⟨w.heap.size, hbase, Nat.le_refl _, hwr, Or.inl hn, hO, rfl, fun _ _ => rfl, Nat.le_refl _⟩
  · have hl := (hb.lt g h1).2
    exact ⟨g, h2, by omega, hwr, Or.inr ⟨h1, h3, by omega, F, h4, h5⟩, hO, rfl, fun _ _ => rfl, Nat.le_refl _⟩

set_option maxHeartbeats 400000 in
theorem bytes_any (a : Option Addr) (l c : Nat) (x y z u : Int) (w : World) :
    Calls Try.prog 20 #[.slice a l c, .int .i64 x, .int .i64 y, .int .i64 z, .int .i64 u] w fun e w' => ∃ v : Bool, e = .returned (.bool v) ∧ w' = w := by
  go_enter Try.func20, Try.ntmps20
  go_wp2
  all_goals
    go_ret
    exact ⟨_, rfl, rfl⟩

set_option maxRecDepth 100000 in
set_option maxHeartbeats 2000000 in
theorem walk_in (L cap0 S O A B : Nat) (a0 : Option Addr) (f : Nat → Int) (w : World) (hab : a0 = none → L = 0 ∧ cap0 = 0) (hrow : Row w a0 L f) (hcap0 : L ≤ cap0) (hL : L ≤ 524288) (hS : S ≤ 65536) (hO : O ≤ L) (hA : A ≤ L - O) (hB : B ≤ L - O - A) :
    Calls Try.prog 5 #[.slice a0 L cap0, .int .i64 (S : Int), .int .i64 (O : Int), .int .i64 (A : Int), .int .i64 (B : Int)] w fun e w' => e = .returned (.bool true) ∧ Below w.heap.size w w' := by
  have HAB := hid hab
  have HRW := hid hrow
  obtain ⟨x1, hx1, hs1⟩ := cut_named a0 L cap0 (O + A) ((O : Int) + (A : Int)) (by omega) (by omega)
  obtain ⟨x2, hx2, hs2⟩ := cut_named a0 L cap0 (O + A + B) ((O : Int) + (A : Int) + (B : Int)) (by omega) (by omega)
  have HX1 := hid hx1
  have HX2 := hid hx2
  clear hab hrow hx1 hx2
  go_enter Try.func5, Try.ntmps5
  go_wp2_with fail
  refine (bytes_any a0 L cap0 S O A B _).mono ?_
  rintro e w' ⟨v, rfl, hw⟩
  subst hw
  cases v
  · go_wp2
    go_ret
    exact ⟨rfl, Below.refl _ _⟩
  · go_wp2_with fail
    refine (spare_any a0 L cap0 S f _ hL hS HRW.out HAB.out).mono ?_
    rintro e w1 ⟨a1, rfl, hbuf, hb1⟩
    have B1 := hid hb1
    have HBF := hid hbuf
    clear hb1 hbuf
    go_wp2_with fail
    refine (newWriter_any a1 L (L + S) (O : Int) _).mono ?_
    rintro e w2 ⟨rfl, hw2⟩
    obtain ⟨gb1, hg1, hg2, hst1⟩ := st_new hO B1.out.size HBF.out hw2
    have ST1 := hid hst1
    have B2 := hid (show Below w'.heap.size w' w2 from by rw [hw2]; exact B1.out.alloc B1.out.size _)
    have Z2 := hid (show w2.heap.size = w1.heap.size + 1 from by rw [hw2, size_alloc])
    have hz1 := B1.out.size
    clear hw2 HBF hst1 B1
    have HR2 := hid (HRW.out.below B2.out (Nat.le_refl _))
    go_wp2_with fail
    refine (spare_any a0 L cap0 S f _ hL hS HR2.out HAB.out).mono ?_
    rintro e w3 ⟨a2, rfl, hbuf, hb3⟩
    have HBF := hid hbuf
    have hz2 := Z2.out
    have B3 := hid (B2.out.trans (hb3.mono B2.out.size))
    have ST1a := hid (st_blocks ST1.out (hb3.block w1.heap.size (by omega)) (hb3.block gb1 (by omega)))
    have hz3 := hb3.size
    clear hb3 hbuf ST1 B2 HR2
    go_wp2_with fail
    refine (newWriter_any a2 L (L + S) (O : Int) _).mono ?_
    rintro e w4 ⟨rfl, hw4⟩
    obtain ⟨gb2, hg3, hg4, hst2⟩ := st_new hO hz3 HBF.out hw4
    have ST2 := hid hst2
    have B4 := hid (show Below w'.heap.size w' w4 from by rw [hw4]; exact B3.out.alloc B3.out.size _)
    have ST1b := hid (st_blocks (w' := w4) ST1a.out (by rw [hw4]; exact Below.heap_alloc _ _ _ (by omega)) (by rw [hw4]; exact Below.heap_alloc _ _ _ (by omega)))
    clear hw4 HBF hst2 ST1a B3
    go_wp2_with fail
    refine (discard_st w1.heap.size gb1 (L + S) L O A f a1 L (L + S) O f _ (by omega) hA ST1b.out).mono ?_
    rintro e w5 ⟨rfl, hk5, p1, l1, c1, o1, F1, hst5, hh5⟩
    have ST5 := hid hst5
    have B5 := hid (B4.out.trans (hk5.below (by omega) (by omega)))
    have ST2a := hid (ST2.out.kept hk5 (by omega) (by omega) (by omega) (by omega))
    have HR5 := hid (HRW.out.below B5.out (Nat.le_refl _))
    have HH5 := hid hh5
    clear hst5 hk5 hh5 ST1b ST2 B4
    have D5 := shape_any w1.heap.size gb1 (L + S) L (O + A) f p1 l1 c1 o1 F1 x1 (cap0 - (O + A)) w5 (by omega) (by omega) (by omega) HH5.out ST5.out (HR5.out.cut hcap0 HX1.out)
    rw [Int.natCast_add] at D5
    have HD5 := hid D5
    clear D5
    go_wp2_with fail
    refine (HD5.out).mono ?_
    rintro e w6 ⟨rfl, m6, hw6⟩
    have ST6 := hid (show St w6 w1.heap.size gb1 (L + S) L (O + A) f p1 l1 c1 o1 F1 from by rw [hw6]; exact ST5.out.drewN m6)
    have ST2b := hid (show St w6 w3.heap.size gb2 (L + S) L O f a2 L (L + S) O f from by rw [hw6]; exact ST2a.out.drewN m6)
    have B6 := hid (show Below w'.heap.size w' w6 from by rw [hw6]; exact below_drewN B5.out m6)
    clear hw6 HD5 ST5 ST2a B5 HR5 HH5
    go_wp2_with fail
    refine (discard_st w1.heap.size gb1 (L + S) L (O + A) B f p1 l1 c1 o1 F1 _ (by omega) (by omega) ST6.out).mono ?_
    rintro e w7 ⟨rfl, hk7, p2, l2, c2, o2, F2, hst7, hh7⟩
    have ST7 := hid hst7
    have B7 := hid (B6.out.trans (hk7.below (by omega) (by omega)))
    have ST2c := hid (ST2b.out.kept hk7 (by omega) (by omega) (by omega) (by omega))
    have HR7 := hid (HRW.out.below B7.out (Nat.le_refl _))
    have D7 := shape_any w1.heap.size gb1 (L + S) L (O + A + B) f p2 l2 c2 o2 F2 x2 (cap0 - (O + A + B)) w7 (by omega) (by omega) (by omega) hh7 ST7.out (HR7.out.cut hcap0 HX2.out)
    rw [Int.natCast_add] at D7
    have HD7 := hid D7
    clear D7 hst7 hk7 hh7 ST6 ST2b B6
    go_wp2_with fail
    refine (HD7.out).mono ?_
    rintro e w8 ⟨rfl, m8, hw8⟩
    have ST2d := hid (show St w8 w3.heap.size gb2 (L + S) L O f a2 L (L + S) O f from by rw [hw8]; exact ST2c.out.drewN m8)
    have B8 := hid (show Below w'.heap.size w' w8 from by rw [hw8]; exact below_drewN B7.out m8)
    clear hw8 HD7 ST7 ST2c B7 HR7
    have D8 := discard_st w3.heap.size gb2 (L + S) L O (A + B) f a2 L (L + S) O f w8 (by omega) (by omega) ST2d.out
    rw [Int.natCast_add, show O + (A + B) = O + A + B from by omega] at D8
    have HD8 := hid D8
    clear D8
    go_wp2_with fail
    refine (HD8.out).mono ?_
    rintro e w9 ⟨rfl, hk9, p3, l3, c3, o3, F3, hst9, hh9⟩
    have B9 := hid (B8.out.trans (hk9.below (by omega) (by omega)))
    have HR9 := hid (HRW.out.below B9.out (Nat.le_refl _))
    have D9 := shape_any w3.heap.size gb2 (L + S) L (O + A + B) f p3 l3 c3 o3 F3 x2 (cap0 - (O + A + B)) w9 (by omega) (by omega) (by omega) hh9 hst9 (HR9.out.cut hcap0 HX2.out)
    rw [Int.natCast_add] at D9
    have HD9 := hid D9
    clear D9 hst9 hk9 hh9 HD8 ST2d B8
    go_wp2_with fail
    refine (HD9.out).mono ?_
    rintro e wx ⟨rfl, mx, hwx⟩
    have BX := hid (show Below w'.heap.size w' wx from by rw [hwx]; exact below_drewN B9.out mx)
    clear hwx
    go_wp2
    go_ret
    exact ⟨rfl, BX.out⟩

set_option maxHeartbeats 400000 in
theorem walk_out (L cap0 : Nat) (sp off n m : Int) (a0 : Option Addr) (w : World) (h : 524288 < L ∨ sp < 0 ∨ 65536 < sp ∨ off < 0 ∨ (L : Int) < off ∨ n < 0 ∨ (L : Int) - off < n ∨ m < 0 ∨ (L : Int) - off - n < m) :
    Calls Try.prog 5 #[.slice a0 L cap0, .int .i64 sp, .int .i64 off, .int .i64 n, .int .i64 m] w fun e w' => e = .returned (.bool true) ∧ Below w.heap.size w w' := by
  by_cases g1 : 524288 < L
  · clear h
    go_enter Try.func5, Try.ntmps5
    go_wp2_with fail
    refine (bytes_any a0 L cap0 sp off n m _).mono ?_
    rintro e w' ⟨v, rfl, hw⟩
    subst hw
    cases v <;> go_wp2 <;> go_ret <;> exact ⟨rfl, Below.refl _ _⟩
  · by_cases g2 : sp < 0 ∨ 65536 < sp
    · clear h
      rcases g2 with g2 | g2
      all_goals
        go_enter Try.func5, Try.ntmps5
        go_wp2_with fail
        refine (bytes_any a0 L cap0 sp off n m _).mono ?_
        rintro e w' ⟨v, rfl, hw⟩
        subst hw
        cases v <;> go_wp2 <;> go_ret <;> exact ⟨rfl, Below.refl _ _⟩
    · have k1 : 0 ≤ sp := by omega
      have k2 : sp ≤ 65536 := by omega
      clear g2
      by_cases g3 : off < 0 ∨ (L : Int) < off
      · clear h
        rcases g3 with g3 | g3
        all_goals
          go_enter Try.func5, Try.ntmps5
          go_wp2_with fail
          refine (bytes_any a0 L cap0 sp off n m _).mono ?_
          rintro e w' ⟨v, rfl, hw⟩
          subst hw
          cases v <;> go_wp2 <;> go_ret <;> exact ⟨rfl, Below.refl _ _⟩
      · have k3 : 0 ≤ off := by omega
        have k4 : off ≤ (L : Int) := by omega
        clear g3
        by_cases g4 : n < 0 ∨ (L : Int) - off < n
        · clear h
          rcases g4 with g4 | g4
          all_goals
            go_enter Try.func5, Try.ntmps5
            go_wp2_with fail
            refine (bytes_any a0 L cap0 sp off n m _).mono ?_
            rintro e w' ⟨v, rfl, hw⟩
            subst hw
            cases v <;> go_wp2 <;> go_ret <;> exact ⟨rfl, Below.refl _ _⟩
        · have k5 : 0 ≤ n := by omega
          have k6 : n ≤ (L : Int) - off := by omega
          have g5 : m < 0 ∨ (L : Int) - off - n < m := by omega
          clear h g4
          rcases g5 with g5 | g5
          all_goals
            go_enter Try.func5, Try.ntmps5
            go_wp2_with fail
            refine (bytes_any a0 L cap0 sp off n m _).mono ?_
            rintro e w' ⟨v, rfl, hw⟩
            subst hw
            cases v <;> go_wp2 <;> go_ret <;> exact ⟨rfl, Below.refl _ _⟩

theorem walk_any (L cap0 : Nat) (sp off n m : Int) (a0 : Option Addr) (f : Nat → Int) (w : World) (hab : a0 = none → L = 0 ∧ cap0 = 0) (hrow : Row w a0 L f) (hcap0 : L ≤ cap0) :
    Calls Try.prog 5 #[.slice a0 L cap0, .int .i64 sp, .int .i64 off, .int .i64 n, .int .i64 m] w fun e w' => e = .returned (.bool true) ∧ Below w.heap.size w w' := by
  by_cases h : 524288 < L ∨ sp < 0 ∨ 65536 < sp ∨ off < 0 ∨ (L : Int) < off ∨ n < 0 ∨ (L : Int) - off < n ∨ m < 0 ∨ (L : Int) - off - n < m
  · exact walk_out L cap0 sp off n m a0 w h
  · obtain ⟨S, rfl⟩ := Int.eq_ofNat_of_zero_le (show 0 ≤ sp by omega)
    obtain ⟨O, rfl⟩ := Int.eq_ofNat_of_zero_le (show 0 ≤ off by omega)
    obtain ⟨A, rfl⟩ := Int.eq_ofNat_of_zero_le (show 0 ≤ n by omega)
    obtain ⟨B, rfl⟩ := Int.eq_ofNat_of_zero_le (show 0 ≤ m by omega)
    exact walk_in L cap0 S O A B a0 f w hab hrow hcap0 (by omega) (by omega) (by omega) (by omega) (by omega)
end Go.Proofs.Qxb6603239a.fnWriterDiscardSplit
