/- ZZTake (24). -/
import Derived.Test.Qxb6603239aTakeOwn
namespace Go.Proofs.Qxb6603239a
open Go.RowKit

theorem Try.info62 : (Try.prog.info? 62).map (fun i => (i.zero, i.size, i.bytes)) = some (some (.agg #[.int .i64 0, .int .i64 0]), 2, 16) := by kernel_rfl

theorem make_spans (n : Nat) (h : n ≤ 8192) (w : World) :
    (Instr.makeSlice 53 (.int .i64 (n : Int)) (.int .i64 (n : Int))).run Try.prog w = .ok (.slice (some ⟨w.heap.size, 0, none⟩) n n) (w.alloc (.cells (madeCells #[.int .i64 0, .int .i64 0] (n * 2)) 62)) := by
  obtain ⟨i, hi, hz0, hz1, hz2⟩ := info_parts Try.info62
  have := run_make (P := Try.prog) w 53 62 i (.agg #[.int .i64 0, .int .i64 0]) Try.underlying53 hi hz0 .i64 .i64 (n : Int) (n : Int) (by omega) (by omega) (by rw [hz2]; omega) (by omega)
  rw [this, hz1]
  rfl

theorem made_spans (w : World) (n : Nat) : (w.alloc (.cells (madeCells #[.int .i64 0, .int .i64 0] (n * 2)) 62)).rowIs w.heap.size 62 (n * 2) (fun _ => .int .i64 0) := by
  refine ⟨_, Go.Deep.blk_alloc_new _ _, size_madeCells _ _, fun i hi => ?_⟩
  have : i % 2 = 0 ∨ i % 2 = 1 := by omega
  rcases this with e | e <;> simp [madeCells, hi, e]

theorem row_of_own {w : World} {base g n : Nat} {xs : List Int} (h : w.ownsRow base 5 1 (.slice (some ⟨g, 0, none⟩) n n) n (xs.map (Value.int .u8))) : w.rowIs g 5 n (fun j => .int .u8 (xs.getD j 0)) := by
  have hl := h.1
  rw [List.length_map, Nat.mul_one] at hl
  rcases h.2 with ⟨h', _⟩ | ⟨g', cap', cur, h', _, hg, _, _, hcs, htake⟩
  · cases h'
  · simp only [Value.slice.injEq, Option.some.injEq, Addr.mk.injEq, and_true, true_and] at h'
    obtain ⟨rfl, rfl⟩ := h'
    refine ⟨cur, hg, by rw [hcs, Nat.mul_one], fun i hi => ?_⟩
    have h1 : cur.toList[i]? = (xs.map (Value.int .u8))[i]? := by
      rw [← htake, List.getElem?_take, if_pos (by omega)]
    rw [Array.getElem?_toList] at h1
    show cur[i]? = some (Value.int .u8 (xs.getD i 0))
    rw [h1, List.getElem?_map, List.getD_eq_getElem?_getD, List.getElem?_eq_getElem (by omega)]
    rfl

theorem pair_step {F : Nat → Value} {s t : Nat → Nat} {k : Nat} (h : ∀ i, i < k → F (i * 2) = .int .i64 (s i) ∧ F (i * 2 + 1) = .int .i64 (t i)) :
    ∀ i, i < k + 1 → (fun j => if j = k * 2 + 1 then Value.int .i64 (t k) else if j = k * 2 then Value.int .i64 (s k) else F j) (i * 2) = .int .i64 (s i) ∧
      (fun j => if j = k * 2 + 1 then Value.int .i64 (t k) else if j = k * 2 then Value.int .i64 (s k) else F j) (i * 2 + 1) = .int .i64 (t i) := by
  intro i hi
  show (if i * 2 = k * 2 + 1 then Value.int .i64 (t k) else if i * 2 = k * 2 then Value.int .i64 (s k) else F (i * 2)) = _ ∧ (if i * 2 + 1 = k * 2 + 1 then Value.int .i64 (t k) else if i * 2 + 1 = k * 2 then Value.int .i64 (s k) else F (i * 2 + 1)) = _
  by_cases e : i = k
  · subst e
    rw [if_neg (by omega), if_pos rfl, if_pos rfl]
    exact ⟨rfl, rfl⟩
  · rw [if_neg (by omega), if_neg (by omega), if_neg (by omega), if_neg (by omega)]
    exact h i (by omega)

set_option maxRecDepth 100000 in
set_option maxHeartbeats 400000 in
theorem zztake_gen (g1 g2 n : Nat) (s t : Nat → Nat) (bufv : Value) (Q : Value → Value → World → Prop) (w : World) (hn : n ≤ 8192)
    (hr1 : w.rowIs g1 3 n (fun i => .int .i64 (s i))) (hr2 : w.rowIs g2 3 n (fun i => .int .i64 (t i)))
    (htake : ∀ wt : World, Below w.heap.size w wt → w.heap.size + 1 < wt.heap.size → wt.cell? ⟨w.heap.size + 1, 2, none⟩ = some (.slice (some ⟨w.heap.size, 0, none⟩) n n) →
      (∀ i, i < n → wt.cell? ⟨w.heap.size, i * 2, none⟩ = some (.int .i64 (s i)) ∧ wt.cell? ⟨w.heap.size, i * 2 + 1, none⟩ = some (.int .i64 (t i))) →
      Calls Try.prog 27 #[.pointer (some ⟨w.heap.size + 1, 0, none⟩), bufv] wt fun e w' => ∃ v0 v1, e = .returned (.tuple #[v0, v1]) ∧ Q v0 v1 w') :
    Calls Try.prog 24 #[.slice (some ⟨g1, 0, none⟩) n n, .slice (some ⟨g2, 0, none⟩) n n, bufv] w fun e w' => ∃ v0 v1, e = .returned (.tuple #[v0, v1]) ∧ Q v0 v1 w' := by
  have HR1 := hid hr1
  have HR2 := hid hr2
  have hg1 := hr1.lt
  have hg2 := hr2.lt
  have hmk := make_spans n hn
  have HT := hid htake
  clear hr1 hr2 htake
  go_enter Try.func24, Try.ntmps24
  go_wp2
  go_loopw [9] (fun v wr => ∃ (k : Nat) (F : Nat → Value), v = .int .i64 k ∧ k ≤ n ∧ Below w.heap.size w wr ∧ w.heap.size + 1 < wr.heap.size ∧ wr.cell? ⟨w.heap.size + 1, 2, none⟩ = some (.slice (some ⟨w.heap.size, 0, none⟩) n n) ∧
      wr.rowIs w.heap.size 62 (n * 2) F ∧ ∀ i, i < k → F (i * 2) = .int .i64 (s i) ∧ F (i * 2 + 1) = .int .i64 (t i)) (fun v _ => n - (intOf v).toNat)
  case atStart =>
    refine ⟨0, _, rfl, Nat.zero_le _, ((Below.refl _ _).alloc (Nat.le_refl _) _).alloc (by simp) _, by simp, by simp, (made_spans _ _).alloc _, fun i hi => absurd hi (Nat.not_lt_zero _)⟩
  case round =>
    clear hmk
    obtain ⟨k, F, rfl, hk, hbel, hsz, hp, hrow, hF⟩ := hrel
    have HB := hid hbel
    have HR := hid hrow
    have HF := hid hF
    clear hbel hrow hF
    by_cases hlt : k < n
    · have c1 : wr.cell? ⟨g1, k, none⟩ = some (.int .i64 (s k)) := by
        rw [HB.out.cell (p := ⟨g1, k, none⟩) hg1]
        exact HR1.out.cell hlt
      have c2 : wr.cell? ⟨g2, k, none⟩ = some (.int .i64 (t k)) := by
        rw [HB.out.cell (p := ⟨g2, k, none⟩) hg2]
        exact HR2.out.cell hlt
      have c3 := HR.out.cell (i := k * 2) (by omega)
      have f3 := HR.out.frozen (k * 2)
      have c4 := HR.out.cell (i := k * 2 + 1) (by omega)
      have f4 := HR.out.frozen (k * 2 + 1)
      go_wp2
      go_region
      all_goals go_wp2
      go_roundw
      case rel =>
        refine ⟨k + 1, _, by go_num, by omega, ((HB.out.setCell (Nat.le_refl _) _).setCell (Nat.le_refl _) _).drew, ?_, ?_, ((HR.out.set (k * 2) _).set (k * 2 + 1) _).drew, pair_step HF.out⟩
        · show _ < ((wr.setCell _ _).setCell _ _).heap.size
          rw [size_setCell, size_setCell]; exact hsz
        · show ((wr.setCell _ _).setCell _ _).cell? _ = _
          rw [World.cell?_setCell_other _ _ _ _ (fun h => Nat.succ_ne_self _ (congrArg Addr.block h).symm), World.cell?_setCell_other _ _ _ _ (fun h => Nat.succ_ne_self _ (congrArg Addr.block h).symm)]
          exact hp
      case measure => simp [intOf]; omega
    · obtain rfl : k = n := by omega
      have HP := hid hp
      clear hp
      go_wp2_with fail
      refine (HT.out wr HB.out hsz HP.out (fun i hi => ⟨by rw [HR.out.cell (i := i * 2) (by omega), (HF.out i hi).1], by rw [HR.out.cell (i := i * 2 + 1) (by omega), (HF.out i hi).2]⟩)).mono ?_
      rintro e w' ⟨v0, v1, rfl, hq⟩
      have HQ := hid hq
      clear hq
      go_wp2
      go_ret2
      exact ⟨_, _, rfl, HQ.out⟩

/-- WHERE THE SPANS HOLD MORE THAN 64 KiB: the arguments lie in the buffer itself -/
theorem zztake_alias (g1 g2 n bb boff L cap : Nat) (s t : Nat → Nat) (w : World) (hn : n ≤ 8192) (hL : L ≤ 131072) (hcap : L ≤ cap) (hst : ∀ i, i < n → s i ≤ t i ∧ t i ≤ L) (hbig : 65536 < pre s t n)
    (hr1 : w.rowIs g1 3 n (fun i => .int .i64 (s i))) (hr2 : w.rowIs g2 3 n (fun i => .int .i64 (t i))) :
    Calls Try.prog 24 #[.slice (some ⟨g1, 0, none⟩) n n, .slice (some ⟨g2, 0, none⟩) n n, .slice (some ⟨bb, boff, none⟩) L cap] w fun e w' => ∃ (ga : Nat) (adr : Nat → Option Addr), e = .returned (.tuple #[.slice (some ⟨ga, 0, none⟩) n n, .bool true]) ∧ w.heap.size ≤ ga ∧
      w'.rowIs ga 22 n (fun i => .slice (adr i) (t i - s i) (t i - s i)) ∧ Below w.heap.size w w' ∧ ∀ i, i < n → t i = s i ∨ adr i = some ⟨bb, boff + s i, none⟩ := by
  refine (zztake_gen g1 g2 n s t (.slice (some ⟨bb, boff, none⟩) L cap) (fun v0 v1 w' => ∃ (ga : Nat) (adr : Nat → Option Addr), v0 = .slice (some ⟨ga, 0, none⟩) n n ∧ v1 = .bool true ∧ w.heap.size ≤ ga ∧
      w'.rowIs ga 22 n (fun i => .slice (adr i) (t i - s i) (t i - s i)) ∧ Below w.heap.size w w' ∧ ∀ i, i < n → t i = s i ∨ adr i = some ⟨bb, boff + s i, none⟩) w hn hr1 hr2 ?_).mono ?_
  · intro wt hb hsz hp hc
    refine (take_alias (w.heap.size + 1) w.heap.size n bb boff L cap s t wt hn hL hcap hst hbig hsz (by omega) hp hc).mono ?_
    rintro e w' ⟨ga, adr, rfl, h1, h2, h3, h4⟩
    exact ⟨_, _, rfl, ga, adr, rfl, rfl, by omega, h2, hb.trans (h3.mono hb.size), h4⟩
  · rintro e w' ⟨v0, v1, rfl, ga, adr, rfl, rfl, h1, h2, h3, h4⟩
    exact ⟨ga, adr, rfl, h1, h2, h3, h4⟩

/-- WHERE THEY HOLD AT MOST 64 KiB: the arguments lie, one behind the other, in a block of their own -/
theorem zztake_own (g1 g2 n L cap : Nat) (ab : Option Addr) (f : Nat → Int) (s t : Nat → Nat) (w : World) (hn : n ≤ 8192) (hL : L ≤ 131072) (hcap : L ≤ cap) (hab : ab = none → L = 0 ∧ cap = 0) (hst : ∀ i, i < n → s i ≤ t i ∧ t i ≤ L)
    (hsmall : pre s t n ≤ 65536) (hrow : Row w ab L f) (hr1 : w.rowIs g1 3 n (fun i => .int .i64 (s i))) (hr2 : w.rowIs g2 3 n (fun i => .int .i64 (t i))) :
    Calls Try.prog 24 #[.slice (some ⟨g1, 0, none⟩) n n, .slice (some ⟨g2, 0, none⟩) n n, .slice ab L cap] w fun e w' => ∃ (gb : Nat) (adr : Nat → Option Addr), e = .returned (.tuple #[.slice (some ⟨gb + 1, 0, none⟩) n n, .bool false]) ∧ w.heap.size ≤ gb ∧
      w'.rowIs (gb + 1) 22 n (fun i => .slice (adr i) (t i - s i) (t i - s i)) ∧ Below w.heap.size w w' ∧ (∀ i, i < n → t i = s i ∨ adr i = some ⟨gb, pre s t i, none⟩) ∧
      w'.rowIs gb 5 (pre s t n) (fun j => .int .u8 ((flat f s t n).getD j 0)) := by
  refine (zztake_gen g1 g2 n s t (.slice ab L cap) (fun v0 v1 w' => ∃ (gb : Nat) (adr : Nat → Option Addr), v0 = .slice (some ⟨gb + 1, 0, none⟩) n n ∧ v1 = .bool false ∧ w.heap.size ≤ gb ∧
      w'.rowIs (gb + 1) 22 n (fun i => .slice (adr i) (t i - s i) (t i - s i)) ∧ Below w.heap.size w w' ∧ (∀ i, i < n → t i = s i ∨ adr i = some ⟨gb, pre s t i, none⟩) ∧
      w'.rowIs gb 5 (pre s t n) (fun j => .int .u8 ((flat f s t n).getD j 0))) w hn hr1 hr2 ?_).mono ?_
  · intro wt hb hsz hp hc
    refine (take_own (w.heap.size + 1) w.heap.size n L cap ab f s t wt hn hL hcap hab hst hsmall (hrow.below hb (Nat.le_refl _)) hsz (by omega) hp hc).mono ?_
    rintro e w' ⟨gb, adr, rfl, h1, h2, h3, h4, h5⟩
    exact ⟨_, _, rfl, gb, adr, rfl, rfl, by omega, h2, hb.trans (h3.mono hb.size), h4, row_of_own h5⟩
  · rintro e w' ⟨v0, v1, rfl, gb, adr, rfl, rfl, h1, h2, h3, h4, h5⟩
    exact ⟨gb, adr, rfl, h1, h2, h3, h4, h5⟩
end Go.Proofs.Qxb6603239a
