/- FnTakeOwnership (7): the walk. -/
import Derived.Test.Qxb6603239aReads
import Derived.Test.Qxb6603239aFill
import Derived.Test.Qxb6603239aClone
import Derived.Test.Qxb6603239aSplit
namespace Go.Proofs.Qxb6603239a.fnTakeOwnership
open Go.RowKit

set_option maxHeartbeats 400000 in
theorem bytes_any (a0 a1 : Option Addr) (l0 c0 l1 c1 : Nat) (w : World) :
    Calls Try.prog 25 #[.slice a0 l0 c0, .slice a1 l1 c1] w fun e w' => ∃ v : Bool, e = .returned (.bool v) ∧ w' = w := by
  go_enter Try.func25, Try.ntmps25
  go_wp2
  all_goals
    go_ret
    exact ⟨_, rfl, rfl⟩

set_option maxRecDepth 100000 in
set_option maxHeartbeats 2000000 in
theorem walk_some (b off n cap0 L cap : Nat) (a1 : Option Addr) (S E : Nat → Int) (f : Nat → Int) (w : World) (hb : b < w.heap.size)
    (hc : ∀ i, i < n → w.cell? ⟨b, off + i * 2, none⟩ = some (.int .i64 (S i)) ∧ w.cell? ⟨b, off + i * 2 + 1, none⟩ = some (.int .i64 (E i)))
    (hab : a1 = none → L = 0 ∧ cap = 0) (hrow : Row w a1 L f) (hn : n ≤ 8192) (hL : L ≤ 131072) :
    Calls Try.prog 7 #[.slice (some ⟨b, off, none⟩) n cap0, .slice a1 L cap] w fun e w' => e = .returned (.bool true) ∧ Below w.heap.size w w' := by
  have HC := hid hc
  have HAB := hid hab
  have HRW := hid hrow
  clear hc hab hrow
  go_enter Try.func7, Try.ntmps7
  go_wp2_with fail
  refine (bytes_any (some ⟨b, off, none⟩) a1 n cap0 L cap _).mono ?_
  rintro e w' ⟨v, rfl, hw⟩
  subst hw
  cases v
  · go_wp2
    go_ret
    exact ⟨rfl, Below.refl _ _⟩
  · go_wp2
    go_loopw [5] (fun v wr => ∃ k nd : Nat, v = .int .i64 k ∧ k ≤ n ∧ wr = w'.drewN nd ∧ ∀ i, i < k → 0 ≤ S i ∧ S i ≤ E i ∧ E i ≤ L) (fun v _ => n - (intOf v).toNat)
    case atStart => exact ⟨0, 0, rfl, Nat.zero_le _, rfl, fun i hi => absurd hi (Nat.not_lt_zero _)⟩
    case round =>
      obtain ⟨k, nd, rfl, hk, hwr, hgood⟩ := hrel
      have HW := hid hwr
      have HGD := hid hgood
      clear hwr hgood
      by_cases hlt : k < n
      · have c1 : wr.cell? ⟨b, off + k * 2, none⟩ = some (.int .i64 (S k)) := by
          rw [HW.out, World.cell?_drewN]
          exact (HC.out k hlt).1
        have c2 : wr.cell? ⟨b, off + k * 2 + 1, none⟩ = some (.int .i64 (E k)) := by
          rw [HW.out, World.cell?_drewN]
          exact (HC.out k hlt).2
        have HBD := hid (show Below w'.heap.size w' wr from by rw [HW.out]; exact below_drewN (Below.refl _ _) nd)
        by_cases q1 : S k < 0
        · go_wp2
          go_quiet (fail)
          go_wp2
          go_ret
          exact ⟨rfl, below_drewN HBD.out nq⟩
        · have d1 : decide (S k < 0) = false := decide_eq_false q1
          by_cases q2 : E k < S k
          · have d2 : decide (E k < S k) = true := decide_eq_true q2
            go_wp2
            go_quiet (fail)
            go_wp2
            go_ret
            exact ⟨rfl, below_drewN HBD.out nq⟩
          · have d2 : decide (E k < S k) = false := decide_eq_false q2
            by_cases q3 : (L : Int) < E k
            · have d3 : decide ((L : Int) < E k) = true := decide_eq_true q3
              go_wp2
              go_quiet (fail)
              go_wp2
              go_ret
              exact ⟨rfl, below_drewN HBD.out nq⟩
            · have d3 : decide ((L : Int) < E k) = false := decide_eq_false q3
              go_wp2
              go_quiet (fail)
              go_wp2
              go_roundw
              case rel => exact ⟨k + 1, nd + nq, by go_num, by omega, by rw [HW.out, World.drewN_drewN], fun i hi => by
                by_cases e : i = k
                · subst e; omega
                · exact HGD.out i (by omega)⟩
              case measure => simp [intOf]; omega
      · obtain rfl : k = n := by omega
        obtain ⟨s, hs⟩ : ∃ s : Nat → Nat, ∀ i, i < k → S i = (s i : Int) := ⟨fun i => (S i).toNat, fun i hi => by have := HGD.out i hi; show S i = ((S i).toNat : Int); omega⟩
        obtain ⟨t, ht⟩ : ∃ t : Nat → Nat, ∀ i, i < k → E i = (t i : Int) := ⟨fun i => (E i).toNat, fun i hi => by have := HGD.out i hi; show E i = ((E i).toNat : Int); omega⟩
        have HST := hid (show ∀ i, i < k → s i ≤ t i ∧ t i ≤ L from fun i hi => by have := HGD.out i hi; have := hs i hi; have := ht i hi; omega)
        have HC2 := hid (show ∀ i, i < k → w'.cell? ⟨b, off + i * 2, none⟩ = some (.int .i64 (s i : Int)) ∧ w'.cell? ⟨b, off + i * 2 + 1, none⟩ = some (.int .i64 (t i : Int)) from fun i hi => by rw [← hs i hi, ← ht i hi]; exact HC.out i hi)
        have B0 := hid (show Below w'.heap.size w' wr from by rw [HW.out]; exact below_drewN (Below.refl _ _) nd)
        clear hs ht HGD HC HW hk hlt
        go_wp2_with fail
        refine (clone_any a1 L cap f _ (by omega) HAB.out (HRW.out.below B0.out (Nat.le_refl _))).mono ?_
        rintro e w1 ⟨a', rfl, hcl, hb1⟩
        have B1 := hid (B0.out.trans (hb1.mono B0.out.size))
        have HR1 := hid (show Row w1 a' L f from by
          rcases hcl with h | ⟨rfl, h⟩
          · exact Or.inl h
          · exact row_of_rowIs h)
        have HCL := hid hcl
        have hg5 := hid (show wr.heap.size < w1.heap.size ∨ L = 0 from by
          rcases hcl with h | ⟨_, h⟩
          · exact Or.inr h
          · exact Or.inl h.lt)
        have hwr5 := hid B0.out.size
        have HN1 := hid (show a' = none → L = 0 ∧ L = 0 from fun h => by
          rcases hcl with h' | ⟨h', _⟩
          · exact ⟨h', h'⟩
          · rw [h] at h'; cases h')
        have hle1 := hid hb1.size
        clear hcl hb1
        go_wp2_with fail
        refine (split_any (some ⟨b, off, none⟩) k cap0 (fun i => (s i : Int)) (fun i => (t i : Int)) _ (by omega) (Or.inr ⟨b, off, rfl, Nat.lt_of_lt_of_le hb B1.out.size, fun i hi => by
          rw [B1.out.cell (p := ⟨b, off + i * 2, none⟩) hb, B1.out.cell (p := ⟨b, off + i * 2 + 1, none⟩) hb]
          exact HC2.out i hi⟩)).mono ?_
        rintro e w2 ⟨rfl, hr1, hr2, hb2⟩
        have B2 := hid (B1.out.trans (hb2.mono B1.out.size))
        have HR2 := hid (HR1.out.below hb2 (Nat.le_refl _))
        have HB12 := hid hb2
        have HX1 := hid hr1
        have HX2 := hid hr2
        clear hr1 hr2 hb2
        go_wp2_with fail
        obtain ⟨g5, hg5e⟩ : ∃ g5, g5 = wr.heap.size := ⟨_, rfl⟩
        rw [← hg5e] at HCL hg5 hwr5 hle1
        clear hg5e
        by_cases hbig : 65536 < pre s t k
        · have hL0 : 0 < L := by
            rcases Nat.lt_or_ge 0 L with h | h
            · exact h
            · have := pre_zero (s := s) (t := t) (n := k) (fun i hi => by have := (HST.out i hi).2; omega) k (Nat.le_refl _)
              omega
          have hcl2 := HCL.out
          rcases hcl2 with h | ⟨rfl, hrow5⟩
          · omega
          · have HR5 := hid hrow5
            clear hrow5
            refine (zztake_alias w1.heap.size (w1.heap.size + 1) k g5 0 L L s t _ (by omega) (by omega) (Nat.le_refl _) HST.out hbig HX1.out HX2.out).mono ?_
            rintro e w3 ⟨ga, adr, rfl, hga, hra, hb3, hadr⟩
            have B3 := hid (B2.out.trans (hb3.mono B2.out.size))
            have HRA := hid hra
            have HAD := hid hadr
            have HR53 := hid (show w3.rowIs g5 5 L (fun i => .int .u8 (f i)) from below_row hb3 (below_row HB12.out HR5.out HR5.out.lt) (Nat.lt_of_lt_of_le HR5.out.lt HB12.out.size))
            have hgne : g5 < ga := Nat.lt_of_lt_of_le HR5.out.lt (Nat.le_trans HB12.out.size hga)
            clear hra hadr hb3 HX1 HX2 HR1 HR2 HN1 B0 B1 B2 hga HCL hg5 hbig HR5
            go_wp2
            go_loopw [11] (fun v wz => ∃ q : Nat, v = .int .i64 q ∧ q ≤ L ∧ KeptOne w3 wz g5 ∧ wz.rowIs g5 5 L (fun i => if i < q then .int .u8 ((f i + 1) % 256) else .int .u8 (f i))) (fun v _ => L - (intOf v).toNat)
            case atStart => exact ⟨0, rfl, Nat.zero_le _, KeptOne.refl _ _, row_start HR53.out⟩
            case round =>
              obtain ⟨q, rfl, hq, hkp, hrow⟩ := hrel
              have KP := hid hkp
              have HR := hid hrow
              clear hkp hrow
              by_cases hlt : q < L
              · have c1 : wr.cell? ⟨g5, q, none⟩ = some (.int .u8 (f q)) := by rw [HR.out.cell hlt, if_neg (Nat.lt_irrefl q)]
                have f1 := HR.out.frozen q
                go_wp2
                go_roundw
                case rel => exact ⟨q + 1, by go_num, by omega, KP.out.setCell _ _, row_step HR.out rfl⟩
                case measure => simp [intOf]; omega
              · obtain rfl : L = q := by omega
                obtain ⟨w4, hw4⟩ : ∃ w4, w4 = wr := ⟨wr, rfl⟩
                subst hw4
                have B4 := hid (B3.out.trans (KP.out.below hwr5.out))
                have HR4 := hid (row_end HR.out)
                have HRA4 := hid (KP.out.row HRA.out (Nat.ne_of_gt hgne))
                have HAR4 := hid (show Args w4 k adr (fun i => (f i + 1) % 256) s t from fun i hi => by
                  rcases HAD.out i hi with e | e
                  · exact Or.inl e
                  · refine Or.inr ⟨g5, 0 + s i, e, HR4.out.lt, fun r hr => ?_⟩
                    have := HST.out i hi
                    rw [Nat.zero_add]
                    exact HR4.out.cell (i := s i + r) (by omega))
                have HRW4 := hid (HRW.out.below B4.out (Nat.le_refl _))
                clear HR HRA HAD HR53 B3 KP hlt hq
                go_wp2
                go_loopw [12] (fun v wr => ∃ i : Nat, v = .int .i64 i ∧ i ≤ k ∧ Below w4.heap.size w4 wr) (fun v _ => k - (intOf v).toNat)
                case atStart => exact ⟨0, rfl, Nat.zero_le _, Below.refl _ _⟩
                case round =>
                  obtain ⟨i, rfl, hi, hbel⟩ := hrel
                  have B5 := hid hbel
                  clear hbel
                  by_cases hlt : i < k
                  · have hb4 : b < w4.heap.size := Nat.lt_of_lt_of_le hb B4.out.size
                    have hgr := hid HRA4.out.lt
                    have hgw : ga < wr.heap.size := Nat.lt_of_lt_of_le hgr.out B5.out.size
                    obtain ⟨p, hp⟩ : ∃ p, p = s i := ⟨_, rfl⟩
                    obtain ⟨m, hm⟩ : ∃ m, m = t i - s i := ⟨_, rfl⟩
                    have hst := HST.out i hlt
                    have c1 : wr.cell? ⟨b, off + i * 2, none⟩ = some (.int .i64 (p : Int)) := by
                      rw [B5.out.cell (p := ⟨b, off + i * 2, none⟩) hb4, B4.out.cell (p := ⟨b, off + i * 2, none⟩) hb, hp]
                      exact (HC2.out i hlt).1
                    have c2 : wr.cell? ⟨b, off + i * 2 + 1, none⟩ = some (.int .i64 ((p : Int) + (m : Int))) := by
                      rw [B5.out.cell (p := ⟨b, off + i * 2 + 1, none⟩) hb4, B4.out.cell (p := ⟨b, off + i * 2 + 1, none⟩) hb, show (p : Int) + (m : Int) = (t i : Int) from by omega]
                      exact (HC2.out i hlt).2
                    have c3 : wr.cell? ⟨ga, i, none⟩ = some (.slice (adr i) m m) := by
                      rw [B5.out.cell (p := ⟨ga, i, none⟩) hgr.out, hm]
                      exact HRA4.out.cell hlt
                    have hpm : p + m ≤ L := by omega
                    have hargs := HAR4.out i hlt
                    have HP := hid hp
                    have HM := hid hm
                    clear hp hm hst
                    by_cases m0 : m = 0
                    · subst m0
                      have d1 : (((p : Int) + ((0 : Nat) : Int) - (p : Int)) != 0) = false := by simp
                      clear hargs
                      go_wp2
                      go_quiet (fail)
                      go_wp2
                      refine wp_loop_rounds 1 ?_
                      rw [rounds_succ]
                      go_wp2
                      go_roundw
                      case rel => exact ⟨i + 1, by go_num, by omega, below_drewN (B5.out.alloc B5.out.size _) nq⟩
                      case measure => simp [intOf]; omega
                    · have hm1 : 0 < m := by omega
                      clear m0
                      rcases hargs with e | ⟨gx, ox, hax, hgx, hcx⟩
                      · have := HM.out
                        omega
                      · rw [hax] at c3
                        have HCX := hid (show ∀ q, q < m → wr.cell? ⟨gx, ox + q, none⟩ = some (.int .u8 ((f (p + q) + 1) % 256)) from fun q hq => by
                          rw [B5.out.cell (p := ⟨gx, ox + q, none⟩) hgx, HP.out]
                          exact hcx q (by rw [← HM.out]; exact hq))
                        have hgxw : gx < wr.heap.size := Nat.lt_of_lt_of_le hgx B5.out.size
                        clear hcx hax
                        rcases HRW4.out with h0 | ⟨bb, boff, rfl, hbb, hcb⟩
                        · omega
                        · have HCB := hid (show ∀ q, q < m → wr.cell? ⟨bb, boff + (p + q), none⟩ = some (.int .u8 (f (p + q))) from fun q hq => by
                            rw [B5.out.cell (p := ⟨bb, boff + (p + q), none⟩) hbb]
                            exact hcb (p + q) (by omega))
                          have hbbw : bb < wr.heap.size := Nat.lt_of_lt_of_le hbb B5.out.size
                          clear hcb
                          have d1 : ((m : Int) != (p : Int) + (m : Int) - (p : Int)) = false := by simp; omega
                          obtain ⟨wo, hwo⟩ : ∃ wo, wo = wr := ⟨wr, rfl⟩
                          subst hwo
                          have X1 := hid (cell_alloc (o := Obj.cells #[Value.int IntKind.i64 p, Value.int IntKind.i64 ((p : Int) + (m : Int))] 44) c3)
                          go_wp2
                          go_quiet (fail)
                          obtain ⟨m5, hm5⟩ : ∃ m5, m5 = nq := ⟨nq, rfl⟩
                          subst hm5
                          go_wp2
                          go_loopw [14] (fun v wz => ∃ q : Nat, v = .int .i64 q ∧ q ≤ m ∧ wz = (wo.alloc (Obj.cells #[Value.int IntKind.i64 p, Value.int IntKind.i64 ((p : Int) + (m : Int))] 44)).drewN m5) (fun v _ => m - (intOf v).toNat)
                          case atStart => exact ⟨0, rfl, Nat.zero_le _, rfl⟩
                          case round =>
                            obtain ⟨q, rfl, hq, hwr⟩ := hrel
                            have HW := hid hwr
                            clear hwr
                            have e3 : wr.cell? ⟨ga, i, none⟩ = some (.slice (some ⟨gx, ox, none⟩) m m) := by rw [HW.out, World.cell?_drewN]; exact X1.out
                            by_cases hqm : q < m
                            · have e1 : wr.cell? ⟨gx, ox + q, none⟩ = some (.int .u8 ((f (p + q) + 1) % 256)) := by rw [HW.out, World.cell?_drewN]; exact cell_alloc (HCX.out q hqm)
                              have e2 : wr.cell? ⟨bb, boff + (p + q), none⟩ = some (.int .u8 (f (p + q))) := by rw [HW.out, World.cell?_drewN]; exact cell_alloc (HCB.out q hqm)
                              have e4 : wr.cell? ⟨wo.heap.size, 0, none⟩ = some (.int .i64 (p : Int)) := by rw [HW.out, World.cell?_drewN]; simp
                              clear c1 c2 c3 d1
                              go_wp2
                              go_roundw
                              case rel => exact ⟨q + 1, by go_num, by omega, HW.out⟩
                              case measure => simp [intOf]; omega
                            · go_wp2
                              go_roundw
                              case rel => exact ⟨i + 1, by go_num, by omega, by rw [HW.out]; exact below_drewN (B5.out.alloc B5.out.size _) m5⟩
                              case measure => simp [intOf]; omega
                  · go_wp2
                    go_ret
                    exact ⟨rfl, B4.out.trans (B5.out.mono B4.out.size)⟩
        · refine (zztake_own w1.heap.size (w1.heap.size + 1) k L L a' f s t _ (by omega) (by omega) (Nat.le_refl _) HN1.out HST.out (by omega) HR2.out HX1.out HX2.out).mono ?_
          rintro e w3 ⟨gb, adr, rfl, hgb, hra, hb3, hadr, hrb⟩
          have B3 := hid (B2.out.trans (hb3.mono B2.out.size))
          have HRA := hid hra
          have HAD := hid hadr
          have HRB := hid hrb
          have hgB := hid (show w'.heap.size ≤ gb from Nat.le_trans B2.out.size hgb)
          have hlt5 : g5 < gb := by have := HX1.out.lt; have := hle1.out; omega
          have HCL3 := hid (show L = 0 ∨ a' = some ⟨g5, 0, none⟩ ∧ w3.rowIs g5 5 L (fun i => .int .u8 (f i)) from by
            rcases HCL.out with h | ⟨h1, h2⟩
            · exact Or.inl h
            · exact Or.inr ⟨h1, below_row hb3 (below_row HB12.out h2 h2.lt) (Nat.lt_of_lt_of_le h2.lt HB12.out.size)⟩)
          clear hra hadr hb3 hrb HX1 HX2 HR1 HR2 HN1 B0 B1 B2 hgb HCL hg5 hbig
          go_wp2
          go_loopw [11] (fun v wz => ∃ q : Nat, v = .int .i64 q ∧ q ≤ L ∧ KeptOne w3 wz g5 ∧ (L = 0 ∨ a' = some ⟨g5, 0, none⟩ ∧ wz.rowIs g5 5 L (fun i => if i < q then .int .u8 ((f i + 1) % 256) else .int .u8 (f i)))) (fun v _ => L - (intOf v).toNat)
          case atStart => exact ⟨0, rfl, Nat.zero_le _, KeptOne.refl _ _, by
            rcases HCL3.out with h | ⟨h1, h2⟩
            · exact Or.inl h
            · exact Or.inr ⟨h1, row_start h2⟩⟩
          case round =>
            obtain ⟨q, rfl, hq, hkp, hcl⟩ := hrel
            have KP := hid hkp
            have HCQ := hid hcl
            clear hkp hcl
            by_cases hlt : q < L
            · have hcq := HCQ.out
              rcases hcq with h | ⟨rfl, hrow⟩
              · omega
              · have HR := hid hrow
                clear hrow
                have c1 : wr.cell? ⟨g5, q, none⟩ = some (.int .u8 (f q)) := by rw [HR.out.cell hlt, if_neg (Nat.lt_irrefl q)]
                have f1 := HR.out.frozen q
                go_wp2
                go_roundw
                case rel => exact ⟨q + 1, by go_num, by omega, KP.out.setCell _ _, Or.inr ⟨by first | rfl | trivial, row_step HR.out rfl⟩⟩
                case measure => simp [intOf]; omega
            · obtain rfl : L = q := by omega
              clear HCQ HCL3
              obtain ⟨w4, hw4⟩ : ∃ w4, w4 = wr := ⟨wr, rfl⟩
              subst hw4
              have B4 := hid (B3.out.trans (KP.out.below hwr5.out))
              have HRA4 := hid (KP.out.row HRA.out (show gb + 1 ≠ g5 by omega))
              have HRB4 := hid (KP.out.row HRB.out (show gb ≠ g5 by omega))
              have HAR4 := hid (show Args w4 k adr f s t from fun i hi => by
                rcases HAD.out i hi with e | e
                · exact Or.inl e
                · refine Or.inr ⟨gb, pre s t i, e, HRB4.out.lt, fun r hr => ?_⟩
                  have hm : pre s t i + (t i - s i) ≤ pre s t k := pre_mono (s := s) (t := t) (i := i + 1) k (by omega)
                  rw [HRB4.out.cell (i := pre s t i + r) (by omega), List.getD_eq_getElem?_getD, flat_get f s t i r hr k hi]
                  rfl)
              have HRW4 := hid (HRW.out.below B4.out (Nat.le_refl _))
              clear HRA HRB B3 KP hlt hq
              go_wp2
              go_loopw [12] (fun v wr => ∃ i : Nat, v = .int .i64 i ∧ i ≤ k ∧ Below w4.heap.size w4 wr) (fun v _ => k - (intOf v).toNat)
              case atStart => exact ⟨0, rfl, Nat.zero_le _, Below.refl _ _⟩
              case round =>
                obtain ⟨i, rfl, hi, hbel⟩ := hrel
                have B5 := hid hbel
                clear hbel
                by_cases hlt : i < k
                · have hb4 : b < w4.heap.size := Nat.lt_of_lt_of_le hb B4.out.size
                  have hgr := hid HRA4.out.lt
                  have hgw : gb + 1 < wr.heap.size := Nat.lt_of_lt_of_le hgr.out B5.out.size
                  obtain ⟨p, hp⟩ : ∃ p, p = s i := ⟨_, rfl⟩
                  obtain ⟨m, hm⟩ : ∃ m, m = t i - s i := ⟨_, rfl⟩
                  have hst := HST.out i hlt
                  have c1 : wr.cell? ⟨b, off + i * 2, none⟩ = some (.int .i64 (p : Int)) := by
                    rw [B5.out.cell (p := ⟨b, off + i * 2, none⟩) hb4, B4.out.cell (p := ⟨b, off + i * 2, none⟩) hb, hp]
                    exact (HC2.out i hlt).1
                  have c2 : wr.cell? ⟨b, off + i * 2 + 1, none⟩ = some (.int .i64 ((p : Int) + (m : Int))) := by
                    rw [B5.out.cell (p := ⟨b, off + i * 2 + 1, none⟩) hb4, B4.out.cell (p := ⟨b, off + i * 2 + 1, none⟩) hb, show (p : Int) + (m : Int) = (t i : Int) from by omega]
                    exact (HC2.out i hlt).2
                  have c3 : wr.cell? ⟨gb + 1, i, none⟩ = some (.slice (adr i) m m) := by
                    rw [B5.out.cell (p := ⟨gb + 1, i, none⟩) hgr.out, hm]
                    exact HRA4.out.cell hlt
                  have hpm : p + m ≤ L := by omega
                  have hargs := HAR4.out i hlt
                  have HP := hid hp
                  have HM := hid hm
                  clear hp hm hst
                  by_cases m0 : m = 0
                  · subst m0
                    have d1 : (((p : Int) + ((0 : Nat) : Int) - (p : Int)) != 0) = false := by simp
                    clear hargs
                    go_wp2
                    go_quiet (fail)
                    go_wp2
                    refine wp_loop_rounds 1 ?_
                    rw [rounds_succ]
                    go_wp2
                    go_roundw
                    case rel => exact ⟨i + 1, by go_num, by omega, below_drewN (B5.out.alloc B5.out.size _) nq⟩
                    case measure => simp [intOf]; omega
                  · have hm1 : 0 < m := by omega
                    clear m0
                    rcases hargs with e | ⟨gx, ox, hax, hgx, hcx⟩
                    · have := HM.out
                      omega
                    · rw [hax] at c3
                      have HCX := hid (show ∀ q, q < m → wr.cell? ⟨gx, ox + q, none⟩ = some (.int .u8 (f (p + q))) from fun q hq => by
                        rw [B5.out.cell (p := ⟨gx, ox + q, none⟩) hgx, HP.out]
                        exact hcx q (by rw [← HM.out]; exact hq))
                      have hgxw : gx < wr.heap.size := Nat.lt_of_lt_of_le hgx B5.out.size
                      clear hcx hax
                      rcases HRW4.out with h0 | ⟨bb, boff, rfl, hbb, hcb⟩
                      · omega
                      · have HCB := hid (show ∀ q, q < m → wr.cell? ⟨bb, boff + (p + q), none⟩ = some (.int .u8 (f (p + q))) from fun q hq => by
                          rw [B5.out.cell (p := ⟨bb, boff + (p + q), none⟩) hbb]
                          exact hcb (p + q) (by omega))
                        have hbbw : bb < wr.heap.size := Nat.lt_of_lt_of_le hbb B5.out.size
                        clear hcb
                        have d1 : ((m : Int) != (p : Int) + (m : Int) - (p : Int)) = false := by simp; omega
                        obtain ⟨wo, hwo⟩ : ∃ wo, wo = wr := ⟨wr, rfl⟩
                        subst hwo
                        have X1 := hid (cell_alloc (o := Obj.cells #[Value.int IntKind.i64 p, Value.int IntKind.i64 ((p : Int) + (m : Int))] 44) c3)
                        go_wp2
                        go_quiet (fail)
                        obtain ⟨m5, hm5⟩ : ∃ m5, m5 = nq := ⟨nq, rfl⟩
                        subst hm5
                        go_wp2
                        go_loopw [14] (fun v wz => ∃ q : Nat, v = .int .i64 q ∧ q ≤ m ∧ wz = (wo.alloc (Obj.cells #[Value.int IntKind.i64 p, Value.int IntKind.i64 ((p : Int) + (m : Int))] 44)).drewN m5) (fun v _ => m - (intOf v).toNat)
                        case atStart => exact ⟨0, rfl, Nat.zero_le _, rfl⟩
                        case round =>
                          obtain ⟨q, rfl, hq, hwr⟩ := hrel
                          have HW := hid hwr
                          clear hwr
                          have e3 : wr.cell? ⟨gb + 1, i, none⟩ = some (.slice (some ⟨gx, ox, none⟩) m m) := by rw [HW.out, World.cell?_drewN]; exact X1.out
                          by_cases hqm : q < m
                          · have e1 : wr.cell? ⟨gx, ox + q, none⟩ = some (.int .u8 (f (p + q))) := by rw [HW.out, World.cell?_drewN]; exact cell_alloc (HCX.out q hqm)
                            have e2 : wr.cell? ⟨bb, boff + (p + q), none⟩ = some (.int .u8 (f (p + q))) := by rw [HW.out, World.cell?_drewN]; exact cell_alloc (HCB.out q hqm)
                            have e4 : wr.cell? ⟨wo.heap.size, 0, none⟩ = some (.int .i64 (p : Int)) := by rw [HW.out, World.cell?_drewN]; simp
                            clear c1 c2 c3 d1
                            go_wp2
                            go_roundw
                            case rel => exact ⟨q + 1, by go_num, by omega, HW.out⟩
                            case measure => simp [intOf]; omega
                          · go_wp2
                            go_roundw
                            case rel => exact ⟨i + 1, by go_num, by omega, by rw [HW.out]; exact below_drewN (B5.out.alloc B5.out.size _) m5⟩
                            case measure => simp [intOf]; omega
                · have HST2 := hid (show ∀ i, i < k → s i ≤ t i ∧ t i ≤ 131072 from fun i hi => by have := HST.out i hi; omega)
                  have HRAe := hid (below_row B5.out HRA4.out HRA4.out.lt)
                  have HRBe := hid (below_row B5.out HRB4.out HRB4.out.lt)
                  have B6 := hid (B4.out.trans (B5.out.mono B4.out.size))
                  clear B5 HRA4 HRB4 HAR4 HRW4
                  go_wp2_with fail
                  refine (fill_zero (gb + 1) gb k s t adr _ _ (by omega) HST2.out (Nat.succ_ne_self _) HRAe.out HRBe.out HAD.out).mono ?_
                  rintro e w6 ⟨rfl, hk6, G6, hr6⟩
                  have B7 := hid (B6.out.trans (hk6.below hgB.out))
                  have HRA6 := hid (hk6.row HRAe.out (Nat.succ_ne_self _))
                  have HR6 := hid hr6
                  clear hk6 hr6 HRAe HRBe B6
                  go_wp2_with fail
                  refine (fill_eight (gb + 1) gb k s t adr _ _ (by omega) HST2.out (Nat.succ_ne_self _) HRA6.out HR6.out HAD.out).mono ?_
                  rintro e w7 ⟨rfl, hk7, G7, hr7⟩
                  have B8 := hid (B7.out.trans (hk7.below hgB.out))
                  clear hk7 hr7
                  go_wp2
                  go_ret
                  exact ⟨rfl, B8.out⟩

set_option maxRecDepth 100000 in
set_option maxHeartbeats 400000 in
theorem walk_empty (cap0 L cap : Nat) (a0 a1 : Option Addr) (f : Nat → Int) (w : World) (hab : a1 = none → L = 0 ∧ cap = 0) (hrow : Row w a1 L f) (hL : L ≤ 131072) :
    Calls Try.prog 7 #[.slice a0 0 cap0, .slice a1 L cap] w fun e w' => e = .returned (.bool true) ∧ Below w.heap.size w w' := by
  have HAB := hid hab
  have HRW := hid hrow
  clear hab hrow
  go_enter Try.func7, Try.ntmps7
  go_wp2_with fail
  refine (bytes_any a0 a1 0 cap0 L cap _).mono ?_
  rintro e w' ⟨v, rfl, hw⟩
  subst hw
  cases v
  · go_wp2
    go_ret
    exact ⟨rfl, Below.refl _ _⟩
  · go_wp2
    refine wp_loop_rounds 1 ?_
    rw [rounds_succ]
    go_wp2_with fail
    refine (clone_any a1 L cap f _ (by omega) HAB.out HRW.out).mono ?_
    rintro e w1 ⟨a', rfl, hcl, hb1⟩
    have B1 := hid hb1
    have HCL := hid hcl
    have hle1 := hid hb1.size
    obtain ⟨g5, hg5e⟩ : ∃ g5, g5 = w'.heap.size := ⟨_, rfl⟩
    have HR1 := hid (show Row w1 a' L f from by
      rcases hcl with h | ⟨rfl, h⟩
      · exact Or.inl h
      · exact row_of_rowIs h)
    have HN1 := hid (show a' = none → L = 0 ∧ L = 0 from fun h => by
      rcases hcl with h' | ⟨h', _⟩
      · exact ⟨h', h'⟩
      · rw [h] at h'; cases h')
    rw [← hg5e] at HCL hle1
    have hwr5 : Hid (w'.heap.size ≤ g5) := hid (Nat.le_of_eq hg5e.symm)
    clear hcl hb1 hg5e
    go_wp2_with fail
    refine (split_any a0 0 cap0 (fun _ => ((0 : Nat) : Int)) (fun _ => ((0 : Nat) : Int)) _ (by omega) (Or.inl rfl)).mono ?_
    rintro e w2 ⟨rfl, hr1, hr2, hb2⟩
    have B2 := hid (B1.out.trans (hb2.mono B1.out.size))
    have HR2 := hid (HR1.out.below hb2 (Nat.le_refl _))
    have HB12 := hid hb2
    have HX1 := hid hr1
    have HX2 := hid hr2
    clear hr1 hr2 hb2
    go_wp2_with fail
    refine (zztake_own w1.heap.size (w1.heap.size + 1) 0 L L a' f (fun _ => 0) (fun _ => 0) _ (by omega) (by omega) (Nat.le_refl _) HN1.out (fun i hi => absurd hi (Nat.not_lt_zero _)) (Nat.zero_le _) HR2.out HX1.out HX2.out).mono ?_
    rintro e w3 ⟨gb, adr, rfl, hgb, hra, hb3, hadr, hrb⟩
    have B3 := hid (B2.out.trans (hb3.mono B2.out.size))
    have HRA := hid hra
    have HRB := hid hrb
    have hgB := hid (show w'.heap.size ≤ gb from Nat.le_trans B2.out.size hgb)
    have hlt5 : g5 < gb := by have := HX1.out.lt; have := hle1.out; omega
    have HCL3 := hid (show L = 0 ∨ a' = some ⟨g5, 0, none⟩ ∧ w3.rowIs g5 5 L (fun i => .int .u8 (f i)) from by
      rcases HCL.out with h | ⟨h1, h2⟩
      · exact Or.inl h
      · exact Or.inr ⟨h1, below_row hb3 (below_row HB12.out h2 h2.lt) (Nat.lt_of_lt_of_le h2.lt HB12.out.size)⟩)
    clear hra hadr hb3 hrb HX1 HX2 HR1 HR2 HN1 B1 B2 hgb HCL
    go_wp2
    go_loopw [11] (fun v wz => ∃ q : Nat, v = .int .i64 q ∧ q ≤ L ∧ KeptOne w3 wz g5 ∧ (L = 0 ∨ a' = some ⟨g5, 0, none⟩ ∧ wz.rowIs g5 5 L (fun i => if i < q then .int .u8 ((f i + 1) % 256) else .int .u8 (f i)))) (fun v _ => L - (intOf v).toNat)
    case atStart => exact ⟨0, rfl, Nat.zero_le _, KeptOne.refl _ _, by
      rcases HCL3.out with h | ⟨h1, h2⟩
      · exact Or.inl h
      · exact Or.inr ⟨h1, row_start h2⟩⟩
    case round =>
      obtain ⟨q, rfl, hq, hkp, hcl⟩ := hrel
      have KP := hid hkp
      have HCQ := hid hcl
      clear hkp hcl
      by_cases hlt : q < L
      · have hcq := HCQ.out
        rcases hcq with h | ⟨rfl, hrow⟩
        · omega
        · have HR := hid hrow
          clear hrow
          have c1 : wr.cell? ⟨g5, q, none⟩ = some (.int .u8 (f q)) := by rw [HR.out.cell hlt, if_neg (Nat.lt_irrefl q)]
          have f1 := HR.out.frozen q
          go_wp2
          go_roundw
          case rel => exact ⟨q + 1, by go_num, by omega, KP.out.setCell _ _, Or.inr ⟨by first | rfl | trivial, row_step HR.out rfl⟩⟩
          case measure => simp [intOf]; omega
      · obtain rfl : L = q := by omega
        clear HCQ HCL3
        have B4 := hid (B3.out.trans (KP.out.below hwr5.out))
        have HRA4 := hid (KP.out.row HRA.out (show gb + 1 ≠ g5 by omega))
        have HRB4 := hid (KP.out.row HRB.out (show gb ≠ g5 by omega))
        clear HRA HRB B3 KP hlt hq
        go_wp2
        refine wp_loop_rounds 1 ?_
        rw [rounds_succ]
        go_wp2_with fail
        refine (fill_zero (gb + 1) gb 0 (fun _ => 0) (fun _ => 0) adr _ _ (by omega) (fun i hi => absurd hi (Nat.not_lt_zero _)) (Nat.succ_ne_self _) HRA4.out HRB4.out (fun i hi => absurd hi (Nat.not_lt_zero _))).mono ?_
        rintro e w6 ⟨rfl, hk6, G6, hr6⟩
        have B7 := hid (B4.out.trans (hk6.below hgB.out))
        have HRA6 := hid (hk6.row HRA4.out (Nat.succ_ne_self _))
        have HR6 := hid hr6
        clear hk6 hr6
        go_wp2_with fail
        refine (fill_eight (gb + 1) gb 0 (fun _ => 0) (fun _ => 0) adr _ _ (by omega) (fun i hi => absurd hi (Nat.not_lt_zero _)) (Nat.succ_ne_self _) HRA6.out HR6.out (fun i hi => absurd hi (Nat.not_lt_zero _))).mono ?_
        rintro e w7 ⟨rfl, hk7, G7, hr7⟩
        have B8 := hid (B7.out.trans (hk7.below hgB.out))
        clear hk7 hr7
        go_wp2
        go_ret
        exact ⟨rfl, B8.out⟩

set_option maxHeartbeats 400000 in
theorem walk_big (n cap0 L cap : Nat) (a0 a1 : Option Addr) (w : World) (h : 8192 < n ∨ 131072 < L) :
    Calls Try.prog 7 #[.slice a0 n cap0, .slice a1 L cap] w fun e w' => e = .returned (.bool true) ∧ Below w.heap.size w w' := by
  by_cases h1 : 8192 < n
  · clear h
    go_enter Try.func7, Try.ntmps7
    go_wp2_with fail
    refine (bytes_any a0 a1 n cap0 L cap _).mono ?_
    rintro e w' ⟨v, rfl, hw⟩
    subst hw
    cases v <;> go_wp2 <;> go_ret <;> exact ⟨rfl, Below.refl _ _⟩
  · have h2 : 131072 < L := by omega
    clear h
    go_enter Try.func7, Try.ntmps7
    go_wp2_with fail
    refine (bytes_any a0 a1 n cap0 L cap _).mono ?_
    rintro e w' ⟨v, rfl, hw⟩
    subst hw
    cases v <;> go_wp2 <;> go_ret <;> exact ⟨rfl, Below.refl _ _⟩

theorem walk (n cap0 L cap : Nat) (a0 a1 : Option Addr) (S E f : Nat → Int) (w : World) (hs : Spans w a0 n S E) (hab : a1 = none → L = 0 ∧ cap = 0) (hrow : Row w a1 L f) :
    Calls Try.prog 7 #[.slice a0 n cap0, .slice a1 L cap] w fun e w' => e = .returned (.bool true) ∧ Below w.heap.size w w' := by
  by_cases h : 8192 < n ∨ 131072 < L
  · exact walk_big n cap0 L cap a0 a1 w h
  · rcases hs with rfl | ⟨b, off, rfl, hb, hc⟩
    · exact walk_empty cap0 L cap a0 a1 f w hab hrow (by omega)
    · exact walk_some b off n cap0 L cap a1 S E f w hb hc hab hrow (by omega) (by omega)
end Go.Proofs.Qxb6603239a.fnTakeOwnership
