/- FnTakeWhole (6): the walk. -/
import Derived.Test.Qxb6603239aReads
import Derived.Test.Qxb6603239aClone
import Derived.Test.Qxb6603239aSplit
namespace Go.Proofs.Qxb6603239a.fnTakeWhole
open Go.RowKit

set_option maxHeartbeats 400000 in
theorem bytes_any (a0 a1 : Option Addr) (l0 c0 l1 c1 : Nat) (w : World) :
    Calls Try.prog 22 #[.slice a0 l0 c0, .slice a1 l1 c1] w fun e w' => ∃ v : Bool, e = .returned (.bool v) ∧ w' = w := by
  go_enter Try.func22, Try.ntmps22
  go_wp2
  all_goals
    go_ret
    exact ⟨_, rfl, rfl⟩

set_option maxRecDepth 100000 in
set_option maxHeartbeats 2000000 in
theorem walk_some (b off n cap0 L cap : Nat) (a1 : Option Addr) (S E : Nat → Int) (f : Nat → Int) (w : World) (hb : b < w.heap.size)
    (hc : ∀ i, i < n → w.cell? ⟨b, off + i * 2, none⟩ = some (.int .i64 (S i)) ∧ w.cell? ⟨b, off + i * 2 + 1, none⟩ = some (.int .i64 (E i)))
    (hab : a1 = none → L = 0 ∧ cap = 0) (hrow : Row w a1 L f) (hn : n ≤ 8192) (hL : L ≤ 131072) :
    Calls Try.prog 6 #[.slice (some ⟨b, off, none⟩) n cap0, .slice a1 L cap] w fun e w' => e = .returned (.bool true) ∧ Below w.heap.size w w' := by
  have HC := hid hc
  have HAB := hid hab
  have HRW := hid hrow
  clear hc hab hrow
  go_enter Try.func6, Try.ntmps6
  go_wp2_with fail
  refine (bytes_any (some ⟨b, off, none⟩) a1 n cap0 L cap _).mono ?_
  rintro e w' ⟨v, rfl, hw⟩
  subst hw
  cases v
  · go_wp2
    go_ret
    exact ⟨rfl, Below.refl _ _⟩
  · go_wp2
    go_loopw [5] (fun v wr => ∃ k nd : Nat, v = .int .i64 k ∧ k ≤ n ∧ wr = w'.drewN nd ∧ ∀ i, i < k → 0 ≤ S i ∧ S i ≤ E i ∧ E i ≤ L) (fun v _ => n - (intOf v).toNat)
    case atStart => exact ⟨0, 0, rfl, Nat.zero_le _, rfl, fun i hi => absurd hi (Nat.not_lt_zero _)⟩
    case round =>
      obtain ⟨k, nd, rfl, hk, hwr, hgood⟩ := hrel
      have HW := hid hwr
      have HGD := hid hgood
      clear hwr hgood
      by_cases hlt : k < n
      · have c1 : wr.cell? ⟨b, off + k * 2, none⟩ = some (.int .i64 (S k)) := by
          rw [HW.out, World.cell?_drewN]
          exact (HC.out k hlt).1
        have c2 : wr.cell? ⟨b, off + k * 2 + 1, none⟩ = some (.int .i64 (E k)) := by
          rw [HW.out, World.cell?_drewN]
          exact (HC.out k hlt).2
        have HBD := hid (show Below w'.heap.size w' wr from by rw [HW.out]; exact below_drewN (Below.refl _ _) nd)
        by_cases q1 : S k < 0
        · go_wp2
          go_quiet (fail)
          go_wp2
          go_ret
          exact ⟨rfl, below_drewN HBD.out nq⟩
        · have d1 : decide (S k < 0) = false := decide_eq_false q1
          by_cases q2 : E k < S k
          · have d2 : decide (E k < S k) = true := decide_eq_true q2
            go_wp2
            go_quiet (fail)
            go_wp2
            go_ret
            exact ⟨rfl, below_drewN HBD.out nq⟩
          · have d2 : decide (E k < S k) = false := decide_eq_false q2
            by_cases q3 : (L : Int) < E k
            · have d3 : decide ((L : Int) < E k) = true := decide_eq_true q3
              go_wp2
              go_quiet (fail)
              go_wp2
              go_ret
              exact ⟨rfl, below_drewN HBD.out nq⟩
            · have d3 : decide ((L : Int) < E k) = false := decide_eq_false q3
              go_wp2
              go_quiet (fail)
              go_wp2
              go_roundw
              case rel => exact ⟨k + 1, nd + nq, by go_num, by omega, by rw [HW.out, World.drewN_drewN], fun i hi => by
                by_cases e : i = k
                · subst e; omega
                · exact HGD.out i (by omega)⟩
              case measure => simp [intOf]; omega
      · obtain rfl : k = n := by omega
        obtain ⟨s, hs⟩ : ∃ s : Nat → Nat, ∀ i, i < k → S i = (s i : Int) := ⟨fun i => (S i).toNat, fun i hi => by have := HGD.out i hi; show S i = ((S i).toNat : Int); omega⟩
        obtain ⟨t, ht⟩ : ∃ t : Nat → Nat, ∀ i, i < k → E i = (t i : Int) := ⟨fun i => (E i).toNat, fun i hi => by have := HGD.out i hi; show E i = ((E i).toNat : Int); omega⟩
        have HST := hid (show ∀ i, i < k → s i ≤ t i ∧ t i ≤ L from fun i hi => by have := HGD.out i hi; have := hs i hi; have := ht i hi; omega)
        have HC2 := hid (show ∀ i, i < k → w'.cell? ⟨b, off + i * 2, none⟩ = some (.int .i64 (s i : Int)) ∧ w'.cell? ⟨b, off + i * 2 + 1, none⟩ = some (.int .i64 (t i : Int)) from fun i hi => by rw [← hs i hi, ← ht i hi]; exact HC.out i hi)
        have B0 := hid (show Below w'.heap.size w' wr from by rw [HW.out]; exact below_drewN (Below.refl _ _) nd)
        clear hs ht HGD HC HW hk hlt
        go_wp2_with fail
        refine (clone_any a1 L cap f _ (by omega) HAB.out (HRW.out.below B0.out (Nat.le_refl _))).mono ?_
        rintro e w1 ⟨a', rfl, hcl, hb1⟩
        have B1 := hid (B0.out.trans (hb1.mono B0.out.size))
        have HR1 := hid (show Row w1 a' L f from by
          rcases hcl with h | ⟨rfl, h⟩
          · exact Or.inl h
          · exact row_of_rowIs h)
        have HN1 := hid (show a' = none → L = 0 ∧ L = 0 from fun h => by
          rcases hcl with h' | ⟨h', _⟩
          · exact ⟨h', h'⟩
          · rw [h] at h'; cases h')
        clear hcl hb1
        go_wp2_with fail
        refine (split_any (some ⟨b, off, none⟩) k cap0 (fun i => (s i : Int)) (fun i => (t i : Int)) _ (by omega) (Or.inr ⟨b, off, rfl, Nat.lt_of_lt_of_le hb B1.out.size, fun i hi => by
          rw [B1.out.cell (p := ⟨b, off + i * 2, none⟩) hb, B1.out.cell (p := ⟨b, off + i * 2 + 1, none⟩) hb]
          exact HC2.out i hi⟩)).mono ?_
        rintro e w2 ⟨rfl, hr1, hr2, hb2⟩
        have B2 := hid (B1.out.trans (hb2.mono B1.out.size))
        have HR2 := hid (HR1.out.below hb2 (Nat.le_refl _))
        have HX1 := hid hr1
        have HX2 := hid hr2
        clear hr1 hr2 hb2
        go_wp2_with fail
        obtain ⟨al, hal⟩ : ∃ al, decide (65536 < pre s t k) = al := ⟨_, rfl⟩
        have HAL := hid hal
        have hbig : decide ((65536 : Int) < (pre s t k : Int)) = al := by rw [← hal]; exact decide_eq_decide.2 (by omega)
        clear hal
        refine (zztake_reads al w1.heap.size (w1.heap.size + 1) k L L a' f s t _ (by omega) (by omega) (Nat.le_refl _) HN1.out HST.out HR2.out HAL.out HX1.out HX2.out).mono ?_
        rintro e w3 ⟨ga, adr, rfl, hga, hra, hb3, hargs⟩
        have B3 := hid (B2.out.trans (hb3.mono B2.out.size))
        have HRA := hid hra
        have HAR := hid hargs
        clear hra hargs hb3 HX1 HX2 HR1 HR2 HN1 B0 B1 B2 hga
        have hpl := pre_le HST.out hL k (Nat.le_refl _)
        clear HAL
        go_wp2
        go_loopw [11, 12] (fun v i wr => ∃ j nd : Nat, i = .int .i64 j ∧ v = .int .i64 (pre s t j) ∧ j ≤ k ∧ wr = w3.drewN nd) (fun _ i _ => k - (intOf i).toNat)
        case atStart => exact ⟨0, 0, rfl, rfl, Nat.zero_le _, rfl⟩
        case round =>
          obtain ⟨j, nd, rfl, rfl, hj, hwr⟩ := hrel
          have HW := hid hwr
          clear hwr
          have hpj := pre_mono (s := s) (t := t) k hj
          by_cases hlt : j < k
          · have c1 : wr.cell? ⟨b, off + j * 2, none⟩ = some (.int .i64 (s j)) := by
              rw [HW.out, World.cell?_drewN, B3.out.cell (p := ⟨b, off + j * 2, none⟩) hb]
              exact (HC2.out j hlt).1
            have c2 : wr.cell? ⟨b, off + j * 2 + 1, none⟩ = some (.int .i64 (t j)) := by
              rw [HW.out, World.cell?_drewN, B3.out.cell (p := ⟨b, off + j * 2 + 1, none⟩) hb]
              exact (HC2.out j hlt).2
            have hst := HST.out j hlt
            clear hbig
            go_wp2
            go_quiet (fail)
            go_wp2
            go_roundw
            case rel => exact ⟨j + 1, nd + nq, by go_num, val_int (by show _ = ((pre s t j + (t j - s j) : Nat) : Int); omega), by omega, by rw [HW.out, World.drewN_drewN]⟩
            case measure => simp [intOf]; omega
          · obtain rfl : j = k := by omega
            obtain ⟨w4, hw4⟩ : ∃ w4, w4 = wr := ⟨wr, rfl⟩
            subst hw4
            have B4 := hid (show Below w'.heap.size w' w4 from by rw [HW.out]; exact below_drewN B3.out nd)
            have HRA4 := hid (show w4.rowIs ga 22 j (fun i => .slice (adr i) (t i - s i) (t i - s i)) from by rw [HW.out]; exact row_drewN HRA.out nd)
            have HAR4 := hid (show Args w4 j adr f s t from by rw [HW.out]; exact args_drewN HAR.out nd)
            have HRW4 := hid (show Row w4 a1 L f from HRW.out.below B4.out (Nat.le_refl _))
            clear HW HRA HAR B3 hlt hj hpj
            go_wp2
            clear hbig hpl
            go_loopw [13] (fun v wr => ∃ i : Nat, v = .int .i64 i ∧ i ≤ j ∧ Below w4.heap.size w4 wr) (fun v _ => j - (intOf v).toNat)
            case atStart => exact ⟨0, rfl, Nat.zero_le _, Below.refl _ _⟩
            case round =>
              obtain ⟨i, rfl, hi, hbel⟩ := hrel
              have B5 := hid hbel
              clear hbel
              by_cases hlt : i < j
              · have hb4 : b < w4.heap.size := Nat.lt_of_lt_of_le hb B4.out.size
                have hgr := hid HRA4.out.lt
                have hgw : ga < wr.heap.size := Nat.lt_of_lt_of_le hgr.out B5.out.size
                obtain ⟨p, hp⟩ : ∃ p, p = s i := ⟨_, rfl⟩
                obtain ⟨m, hm⟩ : ∃ m, m = t i - s i := ⟨_, rfl⟩
                have hst := HST.out i hlt
                have c1 : wr.cell? ⟨b, off + i * 2, none⟩ = some (.int .i64 (p : Int)) := by
                  rw [B5.out.cell (p := ⟨b, off + i * 2, none⟩) hb4, B4.out.cell (p := ⟨b, off + i * 2, none⟩) hb, hp]
                  exact (HC2.out i hlt).1
                have c2 : wr.cell? ⟨b, off + i * 2 + 1, none⟩ = some (.int .i64 ((p : Int) + (m : Int))) := by
                  rw [B5.out.cell (p := ⟨b, off + i * 2 + 1, none⟩) hb4, B4.out.cell (p := ⟨b, off + i * 2 + 1, none⟩) hb, show (p : Int) + (m : Int) = (t i : Int) from by omega]
                  exact (HC2.out i hlt).2
                have c3 : wr.cell? ⟨ga, i, none⟩ = some (.slice (adr i) m m) := by
                  rw [B5.out.cell (p := ⟨ga, i, none⟩) hgr.out, hm]
                  exact HRA4.out.cell hlt
                have hpm : p + m ≤ L := by omega
                have hargs := HAR4.out i hlt
                have HP := hid hp
                have HM := hid hm
                clear hp hm hst
                rcases hargs with e | ⟨gx, ox, hax, hgx, hcx⟩
                · have m0 : m = 0 := by have := HM.out; omega
                  subst m0
                  have d1 : (((p : Int) + ((0 : Nat) : Int) - (p : Int)) != 0) = false := by simp
                  go_wp2
                  go_quiet (fail)
                  go_wp2
                  refine wp_loop_rounds 1 ?_
                  rw [rounds_succ]
                  go_wp2
                  go_roundw
                  case rel => exact ⟨i + 1, by go_num, by omega, below_drewN (B5.out.alloc B5.out.size _) nq⟩
                  case measure => simp [intOf]; omega
                · by_cases m0 : m = 0
                  · subst m0
                    have d1 : (((p : Int) + ((0 : Nat) : Int) - (p : Int)) != 0) = false := by simp
                    clear hcx hax
                    go_wp2
                    go_quiet (fail)
                    go_wp2
                    refine wp_loop_rounds 1 ?_
                    rw [rounds_succ]
                    go_wp2
                    go_roundw
                    case rel => exact ⟨i + 1, by go_num, by omega, below_drewN (B5.out.alloc B5.out.size _) nq⟩
                    case measure => simp [intOf]; omega
                  · have hm1 : 0 < m := by omega
                    clear m0
                    rw [hax] at c3
                    have HCX := hid (show ∀ q, q < m → wr.cell? ⟨gx, ox + q, none⟩ = some (.int .u8 (f (p + q))) from fun q hq => by
                      rw [B5.out.cell (p := ⟨gx, ox + q, none⟩) hgx, HP.out]
                      exact hcx q (by rw [← HM.out]; exact hq))
                    have hgxw : gx < wr.heap.size := Nat.lt_of_lt_of_le hgx B5.out.size
                    clear hcx hax
                    rcases HRW4.out with h0 | ⟨bb, boff, rfl, hbb, hcb⟩
                    · omega
                    · have HCB := hid (show ∀ q, q < m → wr.cell? ⟨bb, boff + (p + q), none⟩ = some (.int .u8 (f (p + q))) from fun q hq => by
                        rw [B5.out.cell (p := ⟨bb, boff + (p + q), none⟩) hbb]
                        exact hcb (p + q) (by omega))
                      have hbbw : bb < wr.heap.size := Nat.lt_of_lt_of_le hbb B5.out.size
                      clear hcb
                      have d1 : ((m : Int) != (p : Int) + (m : Int) - (p : Int)) = false := by simp; omega
                      obtain ⟨wo, hwo⟩ : ∃ wo, wo = wr := ⟨wr, rfl⟩
                      subst hwo
                      have X1 := hid (cell_alloc (o := Obj.cells #[Value.int IntKind.i64 p, Value.int IntKind.i64 ((p : Int) + (m : Int))] 44) c3)
                      go_wp2
                      go_quiet (fail)
                      go_wp2
                      go_loopw [15] (fun v wz => ∃ q nd : Nat, v = .int .i64 q ∧ q ≤ m ∧ wz = (wo.alloc (Obj.cells #[Value.int IntKind.i64 p, Value.int IntKind.i64 ((p : Int) + (m : Int))] 44)).drewN nd) (fun v _ => m - (intOf v).toNat)
                      case atStart => exact ⟨0, nq, rfl, Nat.zero_le _, rfl⟩
                      case round =>
                        obtain ⟨q, nd, rfl, hq, hwr⟩ := hrel
                        have HW := hid hwr
                        clear hwr
                        have e3 : wr.cell? ⟨ga, i, none⟩ = some (.slice (some ⟨gx, ox, none⟩) m m) := by rw [HW.out, World.cell?_drewN]; exact X1.out
                        by_cases hqm : q < m
                        · have e1 : wr.cell? ⟨gx, ox + q, none⟩ = some (.int .u8 (f (p + q))) := by rw [HW.out, World.cell?_drewN]; exact cell_alloc (HCX.out q hqm)
                          have e2 : wr.cell? ⟨bb, boff + (p + q), none⟩ = some (.int .u8 (f (p + q))) := by rw [HW.out, World.cell?_drewN]; exact cell_alloc (HCB.out q hqm)
                          have e4 : wr.cell? ⟨wo.heap.size, 0, none⟩ = some (.int .i64 (p : Int)) := by rw [HW.out, World.cell?_drewN]; simp
                          clear c1 c2 c3 d1
                          go_wp2
                          go_quiet (fail)
                          go_wp2
                          go_roundw
                          case rel => exact ⟨q + 1, nd + nq, by go_num, by omega, by rw [HW.out, World.drewN_drewN]⟩
                          case measure => simp [intOf]; omega
                        · go_wp2
                          go_roundw
                          case rel => exact ⟨i + 1, by go_num, by omega, by rw [HW.out]; exact below_drewN (B5.out.alloc B5.out.size _) nd⟩
                          case measure => simp [intOf]; omega
              · go_wp2
                go_ret
                exact ⟨rfl, B4.out.trans (B5.out.mono B4.out.size)⟩

set_option maxRecDepth 100000 in
set_option maxHeartbeats 400000 in
theorem walk_empty (cap0 L cap : Nat) (a0 a1 : Option Addr) (f : Nat → Int) (w : World) (hab : a1 = none → L = 0 ∧ cap = 0) (hrow : Row w a1 L f) (hL : L ≤ 131072) :
    Calls Try.prog 6 #[.slice a0 0 cap0, .slice a1 L cap] w fun e w' => e = .returned (.bool true) ∧ Below w.heap.size w w' := by
  have HAB := hid hab
  have HRW := hid hrow
  clear hab hrow
  go_enter Try.func6, Try.ntmps6
  go_wp2_with fail
  refine (bytes_any a0 a1 0 cap0 L cap _).mono ?_
  rintro e w' ⟨v, rfl, hw⟩
  subst hw
  cases v
  · go_wp2
    go_ret
    exact ⟨rfl, Below.refl _ _⟩
  · go_wp2
    refine wp_loop_rounds 1 ?_
    rw [rounds_succ]
    go_wp2_with fail
    refine (clone_any a1 L cap f _ (by omega) HAB.out HRW.out).mono ?_
    rintro e w1 ⟨a', rfl, hcl, hb1⟩
    have B1 := hid hb1
    have HR1 := hid (show Row w1 a' L f from by
      rcases hcl with h | ⟨rfl, h⟩
      · exact Or.inl h
      · exact row_of_rowIs h)
    have HN1 := hid (show a' = none → L = 0 ∧ L = 0 from fun h => by
      rcases hcl with h' | ⟨h', _⟩
      · exact ⟨h', h'⟩
      · rw [h] at h'; cases h')
    clear hcl hb1
    go_wp2_with fail
    refine (split_any a0 0 cap0 (fun _ => ((0 : Nat) : Int)) (fun _ => ((0 : Nat) : Int)) _ (by omega) (Or.inl rfl)).mono ?_
    rintro e w2 ⟨rfl, hr1, hr2, hb2⟩
    have B2 := hid (B1.out.trans (hb2.mono B1.out.size))
    have HR2 := hid (HR1.out.below hb2 (Nat.le_refl _))
    have HX1 := hid hr1
    have HX2 := hid hr2
    clear hr1 hr2 hb2
    go_wp2_with fail
    refine (zztake_reads false w1.heap.size (w1.heap.size + 1) 0 L L a' f (fun _ => 0) (fun _ => 0) _ (by omega) (by omega) (Nat.le_refl _) HN1.out (fun i hi => absurd hi (Nat.not_lt_zero _)) HR2.out rfl HX1.out HX2.out).mono ?_
    rintro e w3 ⟨ga, adr, rfl, _, _, hb3, _⟩
    have B3 := hid (B2.out.trans (hb3.mono B2.out.size))
    clear hb3
    go_wp2
    refine wp_loop_rounds 1 ?_
    rw [rounds_succ]
    go_wp2
    refine wp_loop_rounds 1 ?_
    rw [rounds_succ]
    go_wp2
    go_ret
    exact ⟨rfl, B3.out⟩

set_option maxHeartbeats 400000 in
theorem walk_big (n cap0 L cap : Nat) (a0 a1 : Option Addr) (w : World) (h : 8192 < n ∨ 131072 < L) :
    Calls Try.prog 6 #[.slice a0 n cap0, .slice a1 L cap] w fun e w' => e = .returned (.bool true) ∧ Below w.heap.size w w' := by
  by_cases h1 : 8192 < n
  · clear h
    go_enter Try.func6, Try.ntmps6
    go_wp2_with fail
    refine (bytes_any a0 a1 n cap0 L cap _).mono ?_
    rintro e w' ⟨v, rfl, hw⟩
    subst hw
    cases v <;> go_wp2 <;> go_ret <;> exact ⟨rfl, Below.refl _ _⟩
  · have h2 : 131072 < L := by omega
    clear h
    go_enter Try.func6, Try.ntmps6
    go_wp2_with fail
    refine (bytes_any a0 a1 n cap0 L cap _).mono ?_
    rintro e w' ⟨v, rfl, hw⟩
    subst hw
    cases v <;> go_wp2 <;> go_ret <;> exact ⟨rfl, Below.refl _ _⟩

theorem walk (n cap0 L cap : Nat) (a0 a1 : Option Addr) (S E f : Nat → Int) (w : World) (hs : Spans w a0 n S E) (hab : a1 = none → L = 0 ∧ cap = 0) (hrow : Row w a1 L f) :
    Calls Try.prog 6 #[.slice a0 n cap0, .slice a1 L cap] w fun e w' => e = .returned (.bool true) ∧ Below w.heap.size w w' := by
  by_cases h : 8192 < n ∨ 131072 < L
  · exact walk_big n cap0 L cap a0 a1 w h
  · rcases hs with rfl | ⟨b, off, rfl, hb, hc⟩
    · exact walk_empty cap0 L cap a0 a1 f w hab hrow (by omega)
    · exact walk_some b off n cap0 L cap a1 S E f w hb hc hab hrow (by omega) (by omega)
end Go.Proofs.Qxb6603239a.fnTakeWhole
