/- zzSameBytes (13), zzSpareBuffer (16), ZZNewWriter (17), ZZWriterState (19). -/
import Derived.Test.Qxb6603239aBase
namespace Go.Proofs.Qxb6603239a
open Go.RowKit

set_option maxHeartbeats 400000 in
theorem same_some (b1 o1 b2 o2 len c1 c2 : Nat) (f : Nat → Int) (w : World) (hlen : len ≤ 2097152) (h1 : ∀ i, i < len → w.cell? ⟨b1, o1 + i, none⟩ = some (.int .u8 (f i))) (h2 : ∀ i, i < len → w.cell? ⟨b2, o2 + i, none⟩ = some (.int .u8 (f i))) :
    Calls Try.prog 13 #[.slice (some ⟨b1, o1, none⟩) len c1, .slice (some ⟨b2, o2, none⟩) len c2] w fun e w' => e = .returned (.bool true) ∧ ∃ n, w' = w.drewN n := by
  have H1 := hid h1
  have H2 := hid h2
  clear h1 h2
  go_enter Try.func13, Try.ntmps13
  go_wp2
  go_loopw [5] (fun v wr => ∃ k n : Nat, v = .int .i64 k ∧ k ≤ len ∧ wr = w.drewN n) (fun v _ => len - (intOf v).toNat)
  case atStart => exact ⟨0, 0, rfl, Nat.zero_le _, rfl⟩
  case round =>
    obtain ⟨k, n, rfl, hk, hwr⟩ := hrel
    have HW := hid hwr
    clear hwr
    by_cases hlt : k < len
    · have e1 : wr.cell? ⟨b1, o1 + k, none⟩ = some (.int .u8 (f k)) := by rw [HW.out, World.cell?_drewN]; exact H1.out k hlt
      have e2 : wr.cell? ⟨b2, o2 + k, none⟩ = some (.int .u8 (f k)) := by rw [HW.out, World.cell?_drewN]; exact H2.out k hlt
      go_wp2
      go_quiet (fail)
      go_wp2
      go_roundw
      case rel => exact ⟨k + 1, n + nq, by go_num, by omega, by rw [HW.out, World.drewN_drewN]⟩
      case measure => simp [intOf]; omega
    · go_wp2
      go_ret
      exact ⟨rfl, n, HW.out⟩

set_option maxHeartbeats 400000 in
theorem same_empty (a1 a2 : Option Addr) (c1 c2 : Nat) (w : World) :
    Calls Try.prog 13 #[.slice a1 0 c1, .slice a2 0 c2] w fun e w' => e = .returned (.bool true) ∧ ∃ n, w' = w.drewN n := by
  go_enter Try.func13, Try.ntmps13
  go_wp2
  refine wp_loop_rounds 1 ?_
  rw [rounds_succ]
  go_wp2
  go_ret
  exact ⟨rfl, 0, rfl⟩

/-- TWO SLICES OF THE SAME BYTES: true -/
theorem same_any (a1 a2 : Option Addr) (len c1 c2 : Nat) (f : Nat → Int) (w : World) (hlen : len ≤ 2097152) (h1 : Row w a1 len f) (h2 : Row w a2 len f) :
    Calls Try.prog 13 #[.slice a1 len c1, .slice a2 len c2] w fun e w' => e = .returned (.bool true) ∧ ∃ n, w' = w.drewN n := by
  by_cases h0 : len = 0
  · subst h0
    exact same_empty a1 a2 c1 c2 w
  · rcases h1 with h | ⟨b1, o1, rfl, _, h1⟩
    · exact absurd h h0
    · rcases h2 with h | ⟨b2, o2, rfl, _, h2⟩
      · exact absurd h h0
      · exact same_some b1 o1 b2 o2 len c1 c2 f w hlen h1 h2

set_option maxHeartbeats 400000 in
theorem spare_some (b off len cap S : Nat) (f : Nat → Int) (w : World) (hlen : len ≤ 524288) (hS : S ≤ 65536) (hb : b < w.heap.size) (hc : ∀ i, i < len → w.cell? ⟨b, off + i, none⟩ = some (.int .u8 (f i))) :
    Calls Try.prog 16 #[.slice (some ⟨b, off, none⟩) len cap, .int .i64 (S : Int)] w fun e w' => e = .returned (.slice (some ⟨w.heap.size, 0, none⟩) len (len + S)) ∧
      w'.rowIs w.heap.size 5 (len + S) (fun i => if i < len then .int .u8 (f i) else .int .u8 0) ∧ Below w.heap.size w w' := by
  have hnil := fun (w : World) => Lib.run_eql_slice_nil (P := Try.prog) w 22 5 (some ⟨b, off, none⟩) len cap 0 0 Try.underlying22
  have hmk : ∀ w : World, (Instr.makeSlice 22 (.int .i64 ((len : Int) + (S : Int))) (.int .i64 ((len : Int) + (S : Int)))).run Try.prog w = .ok (.slice (some ⟨w.heap.size, 0, none⟩) (len + S) (len + S)) (w.alloc (.cells (madeCells #[.int .u8 0] (len + S)) 5)) := by
    have := run_make_row' (P := Try.prog) 22 5 (.int .u8 0) 1 Try.underlying22 Try.info5 rfl .i64 .i64 (len + S) (by omega) (by omega)
    rw [show ((len + S : Nat) : Int) = (len : Int) + (S : Int) from by omega] at this
    exact this
  have HC := hid hc
  clear hc
  go_enter Try.func16, Try.ntmps16
  go_wp2
  go_loopw [6] (fun v wr => ∃ k : Nat, v = .int .i64 k ∧ k ≤ len ∧ wr.rowIs w.heap.size 5 (len + S) (fun i => if i < k then .int .u8 (f i) else .int .u8 0) ∧ Below w.heap.size w wr)
    (fun v _ => len - (intOf v).toNat)
  case atStart => exact ⟨0, rfl, Nat.zero_le _, row_start (World.rowIs_made _ _ _ _), (Below.refl _ _).alloc (Nat.le_refl _) _⟩
  case round =>
    clear hmk hnil
    obtain ⟨k, rfl, hk, hrow, hbel⟩ := hrel
    have HR := hid hrow
    have HB := hid hbel
    clear hrow hbel
    by_cases hlt : k < len
    · have c1 : wr.cell? ⟨b, off + k, none⟩ = some (.int .u8 (f k)) := by
        rw [HB.out.cell (p := ⟨b, off + k, none⟩) hb]
        exact HC.out k hlt
      have c2 := HR.out.cell (i := k) (by omega)
      have f2 := HR.out.frozen k
      go_wp2
      go_roundw
      case rel => exact ⟨k + 1, by go_num, by omega, row_step HR.out rfl, HB.out.setCell (Nat.le_refl _) _⟩
      case measure => simp [intOf]; omega
    · obtain rfl : k = len := by omega
      go_wp2
      go_ret
      exact ⟨rfl, HR.out, HB.out⟩

theorem make_full (n : Nat) (h : n ≤ 1048576) (w : World) :
    (Instr.makeSlice 22 (.int .i64 (n : Int)) (.int .i64 (n : Int))).run Try.prog w = .ok (.slice (some ⟨w.heap.size, 0, none⟩) n n) (w.alloc (.cells (madeCells #[.int .u8 0] n) 5)) :=
  run_make_row' (P := Try.prog) 22 5 (.int .u8 0) 1 Try.underlying22 Try.info5 rfl .i64 .i64 n (by omega) (by omega) w

set_option maxHeartbeats 400000 in
theorem spare_zero_some (x : Addr) (cap S : Nat) (w : World) (hS : S ≤ 65536) :
    Calls Try.prog 16 #[.slice (some x) 0 cap, .int .i64 (S : Int)] w fun e w' => e = .returned (.slice (some ⟨w.heap.size, 0, none⟩) 0 S) ∧ w'.rowIs w.heap.size 5 S (fun _ => .int .u8 0) ∧ Below w.heap.size w w' := by
  have hnil := fun (w : World) => Lib.run_eql_slice_nil (P := Try.prog) w 22 5 (some x) 0 cap 0 0 Try.underlying22
  have hmk := make_full S (by omega)
  go_enter Try.func16, Try.ntmps16
  go_wp2
  refine wp_loop_rounds 1 ?_
  rw [rounds_succ]
  go_wp2
  go_ret
  exact ⟨rfl, World.rowIs_made _ _ _ _, (Below.refl _ _).alloc (Nat.le_refl _) _⟩

set_option maxHeartbeats 400000 in
theorem spare_zero_none (cap S : Nat) (w : World) (hS : S ≤ 65536) (h0 : 0 < S) :
    Calls Try.prog 16 #[.slice none 0 cap, .int .i64 (S : Int)] w fun e w' => e = .returned (.slice (some ⟨w.heap.size, 0, none⟩) 0 S) ∧ w'.rowIs w.heap.size 5 S (fun _ => .int .u8 0) ∧ Below w.heap.size w w' := by
  have hnil := fun (w : World) => Lib.run_eql_slice_nil (P := Try.prog) w 22 5 none 0 cap 0 0 Try.underlying22
  have hmk := make_full S (by omega)
  have hne : ((S : Int) == 0) = false := by rw [beq_eq_false_iff_ne]; omega
  go_enter Try.func16, Try.ntmps16
  go_wp2
  refine wp_loop_rounds 1 ?_
  rw [rounds_succ]
  go_wp2
  go_ret
  exact ⟨rfl, World.rowIs_made _ _ _ _, (Below.refl _ _).alloc (Nat.le_refl _) _⟩

set_option maxHeartbeats 400000 in
theorem spare_nil (cap : Nat) (w : World) :
    Calls Try.prog 16 #[.slice none 0 cap, .int .i64 0] w fun e w' => e = .returned (.slice none 0 0) ∧ w' = w := by
  have hnil := fun (w : World) => Lib.run_eql_slice_nil (P := Try.prog) w 22 5 none 0 cap 0 0 Try.underlying22
  go_enter Try.func16, Try.ntmps16
  go_wp2
  go_ret
  exact ⟨rfl, rfl⟩

/-- A BUFFER of the writer's: nil; or at the head of a block of the call's own, its bytes f, its cells cap -/
def Bufd (w : World) (base : Nat) (a : Option Addr) (len cap : Nat) (f : Nat → Int) : Prop :=
  (a = none ∧ len = 0 ∧ cap = 0) ∨ ∃ g F, a = some ⟨g, 0, none⟩ ∧ base ≤ g ∧ len ≤ cap ∧ w.rowIs g 5 cap F ∧ ∀ i, i < len → F i = .int .u8 (f i)

/-- zzSpareBuffer: a fresh buffer that holds data, 'S' bytes of spare room behind it; nil stays nil -/
theorem spare_any (a : Option Addr) (len cap S : Nat) (f : Nat → Int) (w : World) (hlen : len ≤ 524288) (hS : S ≤ 65536) (hr : Row w a len f) (hnil : a = none → len = 0 ∧ cap = 0) :
    Calls Try.prog 16 #[.slice a len cap, .int .i64 (S : Int)] w fun e w' => ∃ a', e = .returned (.slice a' len (len + S)) ∧ Bufd w' w.heap.size a' len (len + S) f ∧ Below w.heap.size w w' := by
  by_cases h0 : len = 0
  · subst h0
    rw [Nat.zero_add]
    cases a with
    | none =>
      obtain ⟨_, rfl⟩ := hnil rfl
      by_cases hs : S = 0
      · subst hs
        refine (spare_nil 0 w).mono ?_
        rintro e w' ⟨rfl, rfl⟩
        exact ⟨none, rfl, Or.inl ⟨rfl, rfl, rfl⟩, Below.refl _ _⟩
      · refine (spare_zero_none 0 S w hS (by omega)).mono ?_
        rintro e w' ⟨rfl, hrow, hb⟩
        exact ⟨_, rfl, Or.inr ⟨_, _, rfl, Nat.le_refl _, Nat.zero_le _, hrow, fun i hi => absurd hi (Nat.not_lt_zero _)⟩, hb⟩
    | some x =>
      refine (spare_zero_some x cap S w hS).mono ?_
      rintro e w' ⟨rfl, hrow, hb⟩
      exact ⟨_, rfl, Or.inr ⟨_, _, rfl, Nat.le_refl _, Nat.zero_le _, hrow, fun i hi => absurd hi (Nat.not_lt_zero _)⟩, hb⟩
  · rcases hr with h | ⟨b, off, rfl, hl, hc⟩
    · exact absurd h h0
    · refine (spare_some b off len cap S f w hlen hS hl hc).mono ?_
      rintro e w' ⟨rfl, hrow, hb⟩
      exact ⟨_, rfl, Or.inr ⟨_, _, rfl, Nat.le_refl _, Nat.le_add_right _ _, hrow, fun i hi => if_pos hi⟩, hb⟩

/-- NOTHING BUT BLOCKS g1, g2 HAS TURNED; no block is new -/
structure Kept (w w' : World) (g1 g2 : Nat) : Prop where
  os : w'.os = w.os
  tape : w'.tape = w.tape
  output : w'.output = w.output
  size : w'.heap.size = w.heap.size
  block : ∀ k, k ≠ g1 → k ≠ g2 → w'.heap[k]? = w.heap[k]?

theorem Kept.refl (w : World) (g1 g2 : Nat) : Kept w w g1 g2 := ⟨rfl, rfl, rfl, rfl, fun _ _ _ => rfl⟩

theorem Kept.trans {a b c : World} {g1 g2 : Nat} (h : Kept a b g1 g2) (k : Kept b c g1 g2) : Kept a c g1 g2 :=
  ⟨k.os.trans h.os, k.tape.trans h.tape, k.output.trans h.output, k.size.trans h.size, fun i h1 h2 => (k.block i h1 h2).trans (h.block i h1 h2)⟩

theorem Kept.drewN {w w1 : World} {g1 g2 : Nat} (h : Kept w w1 g1 g2) (n : Nat) : Kept w (w1.drewN n) g1 g2 := by
  induction n with
  | zero => exact h
  | succ n ih => exact ⟨ih.os, ih.tape, ih.output, ih.size, ih.block⟩

theorem Kept.setCell {w w1 : World} {g1 g2 : Nat} (h : Kept w w1 g1 g2) {p : Addr} (hp : p.block = g1 ∨ p.block = g2) (v : Value) : Kept w (w1.setCell p v) g1 g2 :=
  h.trans ⟨rfl, rfl, rfl, size_setCell _ _ _, fun k h1 h2 => heap_setCell_other w1 p k v (fun e => by rcases hp with hp | hp <;> omega)⟩

theorem Kept.left {w w1 : World} {g1 g2 : Nat} (h : Kept w w1 g1 g1) : Kept w w1 g1 g2 := ⟨h.os, h.tape, h.output, h.size, fun k h1 _ => h.block k h1 h1⟩
theorem Kept.right {w w1 : World} {g1 g2 : Nat} (h : Kept w w1 g2 g2) : Kept w w1 g1 g2 := ⟨h.os, h.tape, h.output, h.size, fun k _ h2 => h.block k h2 h2⟩
theorem Kept.ofDrew {w w1 : World} {g1 g2 : Nat} (h : Kept w.drew w1 g1 g2) : Kept w w1 g1 g2 := ⟨h.os, h.tape, h.output, h.size, h.block⟩

theorem Kept.below {w w1 : World} {g1 g2 B : Nat} (h : Kept w w1 g1 g2) (h1 : B ≤ g1) (h2 : B ≤ g2) : Below B w w1 :=
  ⟨h.os, h.tape, h.output, Nat.le_of_eq h.size.symm, fun k hk => h.block k (by omega) (by omega)⟩

theorem Kept.row {w w1 : World} {g1 g2 b n : Nat} {t : TypeId} {F : Nat → Value} (h : Kept w w1 g1 g2) (hr : w.rowIs b t n F) (h1 : b ≠ g1) (h2 : b ≠ g2) : w1.rowIs b t n F := hr.of_block (h.block b h1 h2)

theorem row_drewN {w : World} {g n : Nat} {t : TypeId} {F : Nat → Value} (h : w.rowIs g t n F) (m : Nat) : (w.drewN m).rowIs g t n F := by
  induction m with
  | zero => exact h
  | succ m ih => exact ih.drew

set_option maxHeartbeats 400000 in
theorem newWriter_any (a : Option Addr) (len cap : Nat) (o : Int) (w : World) :
    Calls Try.prog 17 #[.slice a len cap, .int .i64 o] w fun e w' => e = .returned (.pointer (some ⟨w.heap.size, 0, none⟩)) ∧ w' = w.alloc (.cells #[.slice a len cap, .int .i64 o] 59) := by
  go_enter Try.func17, Try.ntmps17
  go_wp2
  go_ret
  exact ⟨rfl, rfl⟩

set_option maxHeartbeats 400000 in
theorem state_any (g : Nat) (a : Option Addr) (len cap : Nat) (o : Int) (w : World) (h0 : w.cell? ⟨g, 0, none⟩ = some (.slice a len cap)) (h1 : w.cell? ⟨g, 1, none⟩ = some (.int .i64 o)) :
    Calls Try.prog 19 #[.pointer (some ⟨g, 0, none⟩)] w fun e w' => e = .returned (.tuple #[.slice a len cap, .int .i64 o]) ∧ ∃ n, w' = w.drewN n := by
  go_enter Try.func19, Try.ntmps19
  go_wp2
  go_quiet (fail)
  go_wp2
  go_ret2
  exact ⟨rfl, nq, rfl⟩
end Go.Proofs.Qxb6603239a
