/- zzSplitSpans (23). -/
import Derived.Test.Qxb6603239aBase
namespace Go.Proofs.Qxb6603239a
open Go.RowKit

set_option maxHeartbeats 400000 in
theorem split_some (b off len cap : Nat) (S E : Nat → Int) (w : World) (hlen : len ≤ 8192) (hb : b < w.heap.size)
    (hc : ∀ i, i < len → w.cell? ⟨b, off + i * 2, none⟩ = some (.int .i64 (S i)) ∧ w.cell? ⟨b, off + i * 2 + 1, none⟩ = some (.int .i64 (E i))) :
    Calls Try.prog 23 #[.slice (some ⟨b, off, none⟩) len cap] w fun e w' => e = .returned (.tuple #[.slice (some ⟨w.heap.size, 0, none⟩) len len, .slice (some ⟨w.heap.size + 1, 0, none⟩) len len]) ∧
      w'.rowIs w.heap.size 3 len (fun i => .int .i64 (S i)) ∧ w'.rowIs (w.heap.size + 1) 3 len (fun i => .int .i64 (E i)) ∧ Below w.heap.size w w' := by
  have hmk := run_make_row' (P := Try.prog) 45 3 (.int .i64 0) 8 Try.underlying45 Try.info3 rfl .i64 .i64 len (by omega) (by omega)
  have HC := hid hc
  clear hc
  go_enter Try.func23, Try.ntmps23
  go_wp2
  go_loopw [6] (fun v wr => ∃ k : Nat, v = .int .i64 k ∧ k ≤ len ∧ wr.rowIs w.heap.size 3 len (fun i => if i < k then .int .i64 (S i) else .int .i64 0) ∧
      wr.rowIs (w.heap.size + 1) 3 len (fun i => if i < k then .int .i64 (E i) else .int .i64 0) ∧ Below w.heap.size w wr)
    (fun v _ => len - (intOf v).toNat)
  case atStart => exact ⟨0, rfl, Nat.zero_le _, row_start ((World.rowIs_made _ _ _ _).alloc _), row_start (made2 _ _ _ _ _), ((Below.refl _ _).alloc (Nat.le_refl _) _).alloc (by simp) _⟩
  case round =>
    clear hmk
    obtain ⟨k, rfl, hk, hrow, hrow2, hbel⟩ := hrel
    have HR := hid hrow
    have HR2 := hid hrow2
    have HB := hid hbel
    clear hrow hbel hrow2
    by_cases hlt : k < len
    · have c1 : wr.cell? ⟨b, off + k * 2, none⟩ = some (.int .i64 (S k)) := by
        rw [HB.out.cell (p := ⟨b, off + k * 2, none⟩) hb]
        exact (HC.out k hlt).1
      have c1' : wr.cell? ⟨b, off + k * 2 + 1, none⟩ = some (.int .i64 (E k)) := by
        rw [HB.out.cell (p := ⟨b, off + k * 2 + 1, none⟩) hb]
        exact (HC.out k hlt).2
      have c2 := HR.out.cell hlt
      have f2 := HR.out.frozen k
      have c3 := HR2.out.cell hlt
      have f3 := HR2.out.frozen k
      go_wp2
      go_roundw
      case rel => exact ⟨k + 1, by go_num, by omega, (row_step HR.out rfl).setOther (Nat.ne_of_lt (Nat.lt_succ_self _)) _, row_step (HR2.out.setOther (Nat.ne_of_gt (Nat.lt_succ_self _)) _) rfl, (HB.out.setCell (Nat.le_refl _) _).setCell (Nat.le_succ _) _⟩
      case measure => simp [intOf]; omega
    · go_wp2
      go_ret2
      have hkl : k = len := by omega
      subst hkl
      exact ⟨rfl, row_end HR.out, row_end HR2.out, HB.out⟩

set_option maxHeartbeats 400000 in
theorem split_empty (a : Option Addr) (cap : Nat) (S E : Nat → Int) (w : World) :
    Calls Try.prog 23 #[.slice a 0 cap] w fun e w' => e = .returned (.tuple #[.slice (some ⟨w.heap.size, 0, none⟩) 0 0, .slice (some ⟨w.heap.size + 1, 0, none⟩) 0 0]) ∧
      w'.rowIs w.heap.size 3 0 (fun i => .int .i64 (S i)) ∧ w'.rowIs (w.heap.size + 1) 3 0 (fun i => .int .i64 (E i)) ∧ Below w.heap.size w w' := by
  have hmk : ∀ w : World, (Instr.makeSlice 45 (.int .i64 0) (.int .i64 0)).run Try.prog w = .ok (.slice (some ⟨w.heap.size, 0, none⟩) 0 0) (w.alloc (.cells (madeCells #[.int .i64 0] 0) 3)) :=
    run_make_row' (P := Try.prog) 45 3 (.int .i64 0) 8 Try.underlying45 Try.info3 rfl .i64 .i64 0 (by omega) (by omega)
  go_enter Try.func23, Try.ntmps23
  go_wp2
  refine wp_loop_rounds 1 ?_
  rw [rounds_succ]
  go_wp2
  go_ret2
  exact ⟨rfl, ((World.rowIs_made _ _ _ _).alloc _).congr (fun i hi => absurd hi (Nat.not_lt_zero _)), (made2 _ _ _ _ _).congr (fun i hi => absurd hi (Nat.not_lt_zero _)), ((Below.refl _ _).alloc (Nat.le_refl _) _).alloc (by simp) _⟩

/-- WHAT IS READ OF A SLICE OF SPANS -/
def Spans (w : World) (a : Option Addr) (len : Nat) (S E : Nat → Int) : Prop :=
  len = 0 ∨ ∃ b off, a = some ⟨b, off, none⟩ ∧ b < w.heap.size ∧ ∀ i, i < len → w.cell? ⟨b, off + i * 2, none⟩ = some (.int .i64 (S i)) ∧ w.cell? ⟨b, off + i * 2 + 1, none⟩ = some (.int .i64 (E i))

theorem split_any (a : Option Addr) (len cap : Nat) (S E : Nat → Int) (w : World) (hlen : len ≤ 8192) (hs : Spans w a len S E) :
    Calls Try.prog 23 #[.slice a len cap] w fun e w' => e = .returned (.tuple #[.slice (some ⟨w.heap.size, 0, none⟩) len len, .slice (some ⟨w.heap.size + 1, 0, none⟩) len len]) ∧
      w'.rowIs w.heap.size 3 len (fun i => .int .i64 (S i)) ∧ w'.rowIs (w.heap.size + 1) 3 len (fun i => .int .i64 (E i)) ∧ Below w.heap.size w w' := by
  rcases hs with rfl | ⟨b, off, rfl, hb, hc⟩
  · exact split_empty a cap S E w
  · exact split_some b off len cap S E w hlen hb hc
end Go.Proofs.Qxb6603239a
