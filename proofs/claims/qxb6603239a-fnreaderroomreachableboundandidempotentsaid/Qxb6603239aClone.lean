/- zzCloneBytes (14). -/
import Derived.Test.Qxb6603239aBase
namespace Go.Proofs.Qxb6603239a
open Go.RowKit

set_option maxHeartbeats 400000 in
theorem clone_some (b off len cap : Nat) (f : Nat → Int) (w : World) (hlen : len ≤ 1048576) (hb : len = 0 ∨ b < w.heap.size) (hc : ∀ i, i < len → w.cell? ⟨b, off + i, none⟩ = some (.int .u8 (f i))) :
    Calls Try.prog 14 #[.slice (some ⟨b, off, none⟩) len cap] w fun e w' => e = .returned (.slice (some ⟨w.heap.size, 0, none⟩) len len) ∧ w'.rowIs w.heap.size 5 len (fun i => .int .u8 (f i)) ∧ Below w.heap.size w w' := by
  have hnil := fun (w : World) => Lib.run_eql_slice_nil (P := Try.prog) w 22 5 (some ⟨b, off, none⟩) len cap 0 0 Try.underlying22
  have hmk := run_make_row' (P := Try.prog) 22 5 (.int .u8 0) 1 Try.underlying22 Try.info5 rfl .i64 .i64 len (by omega) (by omega)
  have HC := hid hc
  clear hc
  go_enter Try.func14, Try.ntmps14
  go_wp2
  go_loopw [4] (fun v wr => ∃ k : Nat, v = .int .i64 k ∧ k ≤ len ∧ wr.rowIs w.heap.size 5 len (fun i => if i < k then .int .u8 (f i) else .int .u8 0) ∧ Below w.heap.size w wr)
    (fun v _ => len - (intOf v).toNat)
  case atStart => exact ⟨0, rfl, Nat.zero_le _, row_start (World.rowIs_made _ _ _ _), (Below.refl _ _).alloc (Nat.le_refl _) _⟩
  case round =>
    clear hmk hnil
    obtain ⟨k, rfl, hk, hrow, hbel⟩ := hrel
    have HR := hid hrow
    have HB := hid hbel
    clear hrow hbel
    by_cases hlt : k < len
    · have c1 : wr.cell? ⟨b, off + k, none⟩ = some (.int .u8 (f k)) := by
        rw [HB.out.cell (p := ⟨b, off + k, none⟩) (show b < w.heap.size by omega)]
        exact HC.out k hlt
      have c2 := HR.out.cell hlt
      have f2 := HR.out.frozen k
      clear hb
      go_wp2
      go_roundw
      case rel => exact ⟨k + 1, by go_num, by omega, row_step HR.out rfl, HB.out.setCell (Nat.le_refl _) _⟩
      case measure => simp [intOf]; omega
    · go_wp2
      go_ret
      have hkl : k = len := by omega
      subst hkl
      exact ⟨rfl, row_end HR.out, HB.out⟩

set_option maxHeartbeats 400000 in
theorem clone_empty (x : Addr) (cap : Nat) (w : World) :
    Calls Try.prog 14 #[.slice (some x) 0 cap] w fun e w' => e = .returned (.slice (some ⟨w.heap.size, 0, none⟩) 0 0) ∧ Below w.heap.size w w' := by
  have hnil := fun (w : World) => Lib.run_eql_slice_nil (P := Try.prog) w 22 5 (some x) 0 cap 0 0 Try.underlying22
  have hmk : ∀ w : World, (Instr.makeSlice 22 (.int .i64 0) (.int .i64 0)).run Try.prog w = .ok (.slice (some ⟨w.heap.size, 0, none⟩) 0 0) (w.alloc (.cells (madeCells #[.int .u8 0] 0) 5)) :=
    run_make_row' (P := Try.prog) 22 5 (.int .u8 0) 1 Try.underlying22 Try.info5 rfl .i64 .i64 0 (by omega) (by omega)
  go_enter Try.func14, Try.ntmps14
  go_wp2
  refine wp_loop_rounds 1 ?_
  rw [rounds_succ]
  go_wp2
  go_ret
  exact ⟨rfl, (Below.refl _ _).alloc (Nat.le_refl _) _⟩

set_option maxHeartbeats 400000 in
theorem clone_nil (w : World) :
    Calls Try.prog 14 #[.slice none 0 0] w fun e w' => e = .returned (.slice none 0 0) ∧ w' = w := by
  have hnil := fun (w : World) => Lib.run_eql_slice_nil (P := Try.prog) w 22 5 none 0 0 0 0 Try.underlying22
  go_enter Try.func14, Try.ntmps14
  go_wp2
  go_ret
  exact ⟨rfl, rfl⟩

/-- A CLONE of whatever slice -/
theorem clone_any (a : Option Addr) (len cap : Nat) (f : Nat → Int) (w : World) (hlen : len ≤ 1048576) (hnil : a = none → len = 0 ∧ cap = 0) (hr : Row w a len f) :
    Calls Try.prog 14 #[.slice a len cap] w fun e w' => ∃ a', e = .returned (.slice a' len len) ∧ (len = 0 ∨ a' = some ⟨w.heap.size, 0, none⟩ ∧ w'.rowIs w.heap.size 5 len (fun i => .int .u8 (f i))) ∧ Below w.heap.size w w' := by
  by_cases h0 : len = 0
  · subst h0
    cases a with
    | none =>
      obtain ⟨_, rfl⟩ := hnil rfl
      refine (clone_nil w).mono ?_
      rintro e w' ⟨rfl, rfl⟩
      exact ⟨_, rfl, Or.inl rfl, Below.refl _ _⟩
    | some x =>
      refine (clone_empty x cap w).mono ?_
      rintro e w' ⟨rfl, hb⟩
      exact ⟨_, rfl, Or.inl rfl, hb⟩
  · rcases hr with h | ⟨b, off, rfl, hl, hc⟩
    · exact absurd h h0
    · refine (clone_some b off len cap f w hlen (Or.inr hl) hc).mono ?_
      rintro e w' ⟨rfl, hrow, hb⟩
      exact ⟨_, rfl, Or.inr ⟨rfl, hrow⟩, hb⟩
end Go.Proofs.Qxb6603239a
