/- zzFillArgs (26): over arguments that lie one behind the other in a block of their own. -/
import Derived.Test.Qxb6603239aReads
namespace Go.Proofs.Qxb6603239a
open Go.RowKit

/-- NOTHING BUT BLOCK g HAS TURNED; no block is new -/
structure KeptOne (w w' : World) (g : Nat) : Prop where
  os : w'.os = w.os
  tape : w'.tape = w.tape
  output : w'.output = w.output
  size : w'.heap.size = w.heap.size
  block : ∀ k, k ≠ g → w'.heap[k]? = w.heap[k]?

theorem KeptOne.refl (w : World) (g : Nat) : KeptOne w w g := ⟨rfl, rfl, rfl, rfl, fun _ _ => rfl⟩
theorem KeptOne.trans {a b c : World} {g : Nat} (h : KeptOne a b g) (k : KeptOne b c g) : KeptOne a c g :=
  ⟨k.os.trans h.os, k.tape.trans h.tape, k.output.trans h.output, k.size.trans h.size, fun i h1 => (k.block i h1).trans (h.block i h1)⟩
theorem KeptOne.setCell {w w1 : World} {g : Nat} (h : KeptOne w w1 g) (j : Nat) (v : Value) : KeptOne w (w1.setCell ⟨g, j, none⟩ v) g :=
  h.trans ⟨rfl, rfl, rfl, size_setCell _ _ _, fun k h1 => heap_setCell_other w1 ⟨g, j, none⟩ k v h1⟩
theorem KeptOne.below {w w1 : World} {g B : Nat} (h : KeptOne w w1 g) (h1 : B ≤ g) : Below B w w1 :=
  ⟨h.os, h.tape, h.output, Nat.le_of_eq h.size.symm, fun k hk => h.block k (by omega)⟩
theorem KeptOne.row {w w1 : World} {g b n : Nat} {t : TypeId} {F : Nat → Value} (h : KeptOne w w1 g) (hr : w.rowIs b t n F) (h1 : b ≠ g) : w1.rowIs b t n F := hr.of_block (h.block b h1)

/-- the first k arguments, and q bytes of the next, are filled -/
def Filled (G : Nat → Value) (s t : Nat → Nat) (V : Nat → Int) (k q : Nat) : Prop :=
  (∀ i, i < k → ∀ r, r < t i - s i → G (pre s t i + r) = .int .u8 (V i)) ∧ ∀ r, r < q → G (pre s t k + r) = .int .u8 (V k)

theorem Filled.step {G : Nat → Value} {s t : Nat → Nat} {V : Nat → Int} {k q : Nat} (h : Filled G s t V k q) :
    Filled (fun j => if j = pre s t k + q then .int .u8 (V k) else G j) s t V k (q + 1) := by
  refine ⟨fun i hi r hr => ?_, fun r hr => ?_⟩
  · have h1 : pre s t i + (t i - s i) ≤ pre s t k := pre_mono (s := s) (t := t) (i := i + 1) k (by omega)
    show (if pre s t i + r = pre s t k + q then _ else _) = _
    rw [if_neg (by omega)]
    exact h.1 i hi r hr
  · show (if pre s t k + r = pre s t k + q then _ else _) = _
    by_cases e : r = q
    · rw [if_pos (by omega)]
    · rw [if_neg (by omega)]
      exact h.2 r (by omega)

theorem Filled.next {G : Nat → Value} {s t : Nat → Nat} {V : Nat → Int} {k : Nat} (h : Filled G s t V k (t k - s k)) : Filled G s t V (k + 1) 0 := by
  refine ⟨fun i hi r hr => ?_, fun r hr => absurd hr (Nat.not_lt_zero _)⟩
  by_cases e : i = k
  · subst e; exact h.2 r hr
  · exact h.1 i (by omega) r hr

set_option maxRecDepth 100000 in
set_option maxHeartbeats 800000 in
theorem fill_zero (ga gb n : Nat) (s t : Nat → Nat) (adr : Nat → Option Addr) (G0 : Nat → Value) (w : World) (hn : n ≤ 8192) (hst : ∀ i, i < n → s i ≤ t i ∧ t i ≤ 131072) (hne : ga ≠ gb)
    (hra : w.rowIs ga 22 n (fun i => .slice (adr i) (t i - s i) (t i - s i))) (hrb : w.rowIs gb 5 (pre s t n) G0) (hadr : ∀ i, i < n → t i = s i ∨ adr i = some ⟨gb, pre s t i, none⟩) :
    Calls Try.prog 26 #[.slice (some ⟨ga, 0, none⟩) n n, .int .u64 0] w fun e w' => e = .returned (.bool true) ∧ KeptOne w w' gb ∧ ∃ G, w'.rowIs gb 5 (pre s t n) G := by
  have HST := hid hst
  have HRA := hid hra
  have HAD := hid hadr
  have HRB := hid hrb
  clear hst hra hadr hrb
  go_enter Try.func26, Try.ntmps26
  go_wp2
  go_loopw [5] (fun v wr => ∃ (k : Nat) (G : Nat → Value), v = .int .i64 k ∧ k ≤ n ∧ KeptOne w wr gb ∧ wr.rowIs gb 5 (pre s t n) G ∧ Filled G s t (fun i => (i : Int) % 256) k 0) (fun v _ => n - (intOf v).toNat)
  case atStart => exact ⟨0, G0, rfl, Nat.zero_le _, KeptOne.refl _ _, HRB.out, fun i hi => absurd hi (Nat.not_lt_zero _), fun i hi => absurd hi (Nat.not_lt_zero _)⟩
  case round =>
    obtain ⟨k, G, rfl, hk, hkp, hrow, hfl⟩ := hrel
    have KP := hid hkp
    have HR := hid hrow
    have HF := hid hfl
    clear hkp hrow hfl
    by_cases hlt : k < n
    · have c3 : wr.cell? ⟨ga, k, none⟩ = some (.slice (adr k) (t k - s k) (t k - s k)) := (KP.out.row HRA.out hne).cell hlt
      have hst := HST.out k hlt
      have hpm : pre s t k + (t k - s k) ≤ pre s t n := pre_mono (s := s) (t := t) (i := k + 1) n (by omega)
      obtain ⟨m, hm⟩ : ∃ m, m = t k - s k := ⟨_, rfl⟩
      rw [← hm] at c3 hpm
      have HM := hid hm
      have hm2 : m ≤ 131072 := by omega
      clear hm hst
      rcases HAD.out k hlt with e | e
      · have m0 : m = 0 := by have := HM.out; omega
        subst m0
        clear e
        go_wp2
        refine wp_loop_rounds 1 ?_
        rw [rounds_succ]
        go_wp2
        go_roundw
        case rel => exact ⟨k + 1, G, by go_num, by omega, KP.out, HR.out, Filled.next ⟨HF.out.1, fun r hr => absurd hr (by rw [← HM.out]; exact Nat.not_lt_zero _)⟩⟩
        case measure => simp [intOf]; omega
      · rw [e] at c3
        clear e
        have HC3 := hid c3
        have HKB := hid (KP.out.block ga hne)
        obtain ⟨wo, hwo⟩ : ∃ wo, wo = wr := ⟨wr, rfl⟩
        subst hwo
        go_wp2
        go_loopw [7] (fun v wz => ∃ (q : Nat) (G : Nat → Value), v = .int .i64 q ∧ q ≤ m ∧ KeptOne w wz gb ∧ wz.rowIs gb 5 (pre s t n) G ∧ Filled G s t (fun i => (i : Int) % 256) k q) (fun v _ => m - (intOf v).toNat)
        case atStart => exact ⟨0, G, rfl, Nat.zero_le _, KP.out, HR.out, HF.out⟩
        case round =>
          clear c3 KP HR HF
          clear G
          obtain ⟨q, G, rfl, hq, hkp, hrow, hfl⟩ := hrel
          have KP := hid hkp
          have HR := hid hrow
          have HF := hid hfl
          clear hkp hrow hfl
          have d3 : wr.cell? ⟨ga, k, none⟩ = some (.slice (some ⟨gb, pre s t k, none⟩) m m) := by
            rw [World.cell?_of_block (KP.out.block ga hne), ← World.cell?_of_block (a := ⟨ga, k, none⟩) (HKB.out)]
            exact HC3.out
          by_cases hqm : q < m
          · have d4 := HR.out.cell (i := pre s t k + q) (by omega)
            have f4 := HR.out.frozen (pre s t k + q)
            go_wp2
            go_roundw
            case rel => exact ⟨q + 1, _, by go_num, by omega, KP.out.setCell _ _, HR.out.set _ _, HF.out.step⟩
            case measure => simp [intOf]; omega
          · obtain rfl : q = m := by omega
            go_wp2
            go_roundw
            case rel => exact ⟨k + 1, G, by go_num, by omega, KP.out, HR.out, Filled.next (by rw [← HM.out]; exact HF.out)⟩
            case measure => simp [intOf]; omega
    · obtain rfl : k = n := by omega
      obtain ⟨w1, hw1⟩ : ∃ w1, w1 = wr := ⟨wr, rfl⟩
      subst hw1
      have HRA1 := hid (KP.out.row HRA.out hne)
      clear hk hlt
      go_wp2
      go_loopw [8] (fun v wz => ∃ j : Nat, v = .int .i64 j ∧ j ≤ k ∧ w1 = wz) (fun v _ => k - (intOf v).toNat)
      case atStart => exact ⟨0, rfl, Nat.zero_le _, rfl⟩
      case round =>
        obtain ⟨j, rfl, hj, hwz⟩ := hrel
        subst hwz
        by_cases hlt : j < k
        · have c3 : w1.cell? ⟨ga, j, none⟩ = some (.slice (adr j) (t j - s j) (t j - s j)) := HRA1.out.cell hlt
          have hst := HST.out j hlt
          have hpm : pre s t j + (t j - s j) ≤ pre s t k := pre_mono (s := s) (t := t) (i := j + 1) k (by omega)
          obtain ⟨m, hm⟩ : ∃ m, m = t j - s j := ⟨_, rfl⟩
          rw [← hm] at c3 hpm
          have HM := hid hm
          have hm2 : m ≤ 131072 := by omega
          clear hm hst
          rcases HAD.out j hlt with e | e
          · have m0 : m = 0 := by have := HM.out; omega
            subst m0
            clear e
            go_wp2
            refine wp_loop_rounds 1 ?_
            rw [rounds_succ]
            go_wp2
            go_roundw
            case rel => exact ⟨j + 1, by go_num, by omega, by first | rfl | trivial⟩
            case measure => simp [intOf]; omega
          · rw [e] at c3
            clear e
            go_wp2
            go_loopw [10] (fun v wz => ∃ q : Nat, v = .int .i64 q ∧ q ≤ m ∧ w1 = wz) (fun v _ => m - (intOf v).toNat)
            case atStart => exact ⟨0, rfl, Nat.zero_le _, rfl⟩
            case round =>
              obtain ⟨q, rfl, hq, hwz⟩ := hrel
              subst hwz
              by_cases hqm : q < m
              · have d4 : w1.cell? ⟨gb, pre s t j + q, none⟩ = some (.int .u8 ((j : Int) % 256)) := by
                  rw [HR.out.cell (i := pre s t j + q) (by omega), HF.out.1 j hlt q (by rw [← HM.out]; exact hqm)]
                go_wp2
                go_roundw
                case rel => exact ⟨q + 1, by go_num, by omega, by first | rfl | trivial⟩
                case measure => simp [intOf]; omega
              · go_wp2
                go_roundw
                case rel => exact ⟨j + 1, by go_num, by omega, by first | rfl | trivial⟩
                case measure => simp [intOf]; omega
        · go_wp2
          go_ret
          exact ⟨rfl, KP.out, G, HR.out⟩
set_option maxRecDepth 100000 in
set_option maxHeartbeats 800000 in
theorem fill_eight (ga gb n : Nat) (s t : Nat → Nat) (adr : Nat → Option Addr) (G0 : Nat → Value) (w : World) (hn : n ≤ 8192) (hst : ∀ i, i < n → s i ≤ t i ∧ t i ≤ 131072) (hne : ga ≠ gb)
    (hra : w.rowIs ga 22 n (fun i => .slice (adr i) (t i - s i) (t i - s i))) (hrb : w.rowIs gb 5 (pre s t n) G0) (hadr : ∀ i, i < n → t i = s i ∨ adr i = some ⟨gb, pre s t i, none⟩) :
    Calls Try.prog 26 #[.slice (some ⟨ga, 0, none⟩) n n, .int .u64 8] w fun e w' => e = .returned (.bool true) ∧ KeptOne w w' gb ∧ ∃ G, w'.rowIs gb 5 (pre s t n) G := by
  have HST := hid hst
  have HRA := hid hra
  have HAD := hid hadr
  have HRB := hid hrb
  clear hst hra hadr hrb
  go_enter Try.func26, Try.ntmps26
  go_wp2
  go_loopw [5] (fun v wr => ∃ (k : Nat) (G : Nat → Value), v = .int .i64 k ∧ k ≤ n ∧ KeptOne w wr gb ∧ wr.rowIs gb 5 (pre s t n) G ∧ Filled G s t (fun i => (i : Int) / 256) k 0) (fun v _ => n - (intOf v).toNat)
  case atStart => exact ⟨0, G0, rfl, Nat.zero_le _, KeptOne.refl _ _, HRB.out, fun i hi => absurd hi (Nat.not_lt_zero _), fun i hi => absurd hi (Nat.not_lt_zero _)⟩
  case round =>
    obtain ⟨k, G, rfl, hk, hkp, hrow, hfl⟩ := hrel
    have KP := hid hkp
    have HR := hid hrow
    have HF := hid hfl
    clear hkp hrow hfl
    by_cases hlt : k < n
    · have c3 : wr.cell? ⟨ga, k, none⟩ = some (.slice (adr k) (t k - s k) (t k - s k)) := (KP.out.row HRA.out hne).cell hlt
      have hst := HST.out k hlt
      have hpm : pre s t k + (t k - s k) ≤ pre s t n := pre_mono (s := s) (t := t) (i := k + 1) n (by omega)
      obtain ⟨m, hm⟩ : ∃ m, m = t k - s k := ⟨_, rfl⟩
      rw [← hm] at c3 hpm
      have HM := hid hm
      have hm2 : m ≤ 131072 := by omega
      clear hm hst
      rcases HAD.out k hlt with e | e
      · have m0 : m = 0 := by have := HM.out; omega
        subst m0
        clear e
        go_wp2
        refine wp_loop_rounds 1 ?_
        rw [rounds_succ]
        go_wp2
        go_roundw
        case rel => exact ⟨k + 1, G, by go_num, by omega, KP.out, HR.out, Filled.next ⟨HF.out.1, fun r hr => absurd hr (by rw [← HM.out]; exact Nat.not_lt_zero _)⟩⟩
        case measure => simp [intOf]; omega
      · rw [e] at c3
        clear e
        have HC3 := hid c3
        have HKB := hid (KP.out.block ga hne)
        obtain ⟨wo, hwo⟩ : ∃ wo, wo = wr := ⟨wr, rfl⟩
        subst hwo
        go_wp2
        go_loopw [7] (fun v wz => ∃ (q : Nat) (G : Nat → Value), v = .int .i64 q ∧ q ≤ m ∧ KeptOne w wz gb ∧ wz.rowIs gb 5 (pre s t n) G ∧ Filled G s t (fun i => (i : Int) / 256) k q) (fun v _ => m - (intOf v).toNat)
        case atStart => exact ⟨0, G, rfl, Nat.zero_le _, KP.out, HR.out, HF.out⟩
        case round =>
          clear c3 KP HR HF
          clear G
          obtain ⟨q, G, rfl, hq, hkp, hrow, hfl⟩ := hrel
          have KP := hid hkp
          have HR := hid hrow
          have HF := hid hfl
          clear hkp hrow hfl
          have d3 : wr.cell? ⟨ga, k, none⟩ = some (.slice (some ⟨gb, pre s t k, none⟩) m m) := by
            rw [World.cell?_of_block (KP.out.block ga hne), ← World.cell?_of_block (a := ⟨ga, k, none⟩) (HKB.out)]
            exact HC3.out
          by_cases hqm : q < m
          · have d4 := HR.out.cell (i := pre s t k + q) (by omega)
            have f4 := HR.out.frozen (pre s t k + q)
            go_wp2
            go_roundw
            case rel => exact ⟨q + 1, _, by go_num, by omega, KP.out.setCell _ _, HR.out.set _ _, HF.out.step⟩
            case measure => simp [intOf]; omega
          · obtain rfl : q = m := by omega
            go_wp2
            go_roundw
            case rel => exact ⟨k + 1, G, by go_num, by omega, KP.out, HR.out, Filled.next (by rw [← HM.out]; exact HF.out)⟩
            case measure => simp [intOf]; omega
    · obtain rfl : k = n := by omega
      obtain ⟨w1, hw1⟩ : ∃ w1, w1 = wr := ⟨wr, rfl⟩
      subst hw1
      have HRA1 := hid (KP.out.row HRA.out hne)
      clear hk hlt
      go_wp2
      go_loopw [8] (fun v wz => ∃ j : Nat, v = .int .i64 j ∧ j ≤ k ∧ w1 = wz) (fun v _ => k - (intOf v).toNat)
      case atStart => exact ⟨0, rfl, Nat.zero_le _, rfl⟩
      case round =>
        obtain ⟨j, rfl, hj, hwz⟩ := hrel
        subst hwz
        by_cases hlt : j < k
        · have c3 : w1.cell? ⟨ga, j, none⟩ = some (.slice (adr j) (t j - s j) (t j - s j)) := HRA1.out.cell hlt
          have hst := HST.out j hlt
          have hpm : pre s t j + (t j - s j) ≤ pre s t k := pre_mono (s := s) (t := t) (i := j + 1) k (by omega)
          obtain ⟨m, hm⟩ : ∃ m, m = t j - s j := ⟨_, rfl⟩
          rw [← hm] at c3 hpm
          have HM := hid hm
          have hm2 : m ≤ 131072 := by omega
          clear hm hst
          rcases HAD.out j hlt with e | e
          · have m0 : m = 0 := by have := HM.out; omega
            subst m0
            clear e
            go_wp2
            refine wp_loop_rounds 1 ?_
            rw [rounds_succ]
            go_wp2
            go_roundw
            case rel => exact ⟨j + 1, by go_num, by omega, by first | rfl | trivial⟩
            case measure => simp [intOf]; omega
          · rw [e] at c3
            clear e
            go_wp2
            go_loopw [10] (fun v wz => ∃ q : Nat, v = .int .i64 q ∧ q ≤ m ∧ w1 = wz) (fun v _ => m - (intOf v).toNat)
            case atStart => exact ⟨0, rfl, Nat.zero_le _, rfl⟩
            case round =>
              obtain ⟨q, rfl, hq, hwz⟩ := hrel
              subst hwz
              by_cases hqm : q < m
              · have d4 : w1.cell? ⟨gb, pre s t j + q, none⟩ = some (.int .u8 ((j : Int) / 256)) := by
                  rw [HR.out.cell (i := pre s t j + q) (by omega), HF.out.1 j hlt q (by rw [← HM.out]; exact hqm)]
                go_wp2
                go_roundw
                case rel => exact ⟨q + 1, by go_num, by omega, by first | rfl | trivial⟩
                case measure => simp [intOf]; omega
              · go_wp2
                go_roundw
                case rel => exact ⟨j + 1, by go_num, by omega, by first | rfl | trivial⟩
                case measure => simp [intOf]; omega
        · go_wp2
          go_ret
          exact ⟨rfl, KP.out, G, HR.out⟩
end Go.Proofs.Qxb6603239a
