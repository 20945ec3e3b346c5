/- SMALL LAWS that the walks of this program share: a byte slice as the walk reads it; hidden facts; draws. -/
import Derived.Test.Qxb6603239aRows
import Derived.WalkKit
import Derived.WalkSpells
import Derived.Deep.OwnRows
import Derived.Deep.QuietTactic
import Derived.BigQuiet
namespace Go.Proofs.Qxb6603239a
open Go.RowKit

theorem Try.info5 : (Try.prog.info? 5).map (fun i => (i.zero, i.size, i.bytes)) = some (some (.int .u8 0), 1, 1) := by kernel_rfl
theorem Try.info3 : (Try.prog.info? 3).map (fun i => (i.zero, i.size, i.bytes)) = some (some (.int .i64 0), 1, 8) := by kernel_rfl

theorem hid {p : Prop} (h : p) : Hid p := h

theorem below_drewN {B : Nat} {w w1 : World} (h : Below B w w1) (n : Nat) : Below B w (w1.drewN n) := by
  induction n with
  | zero => exact h
  | succ n ih => exact ih.drew

theorem below_row {B b n : Nat} {t : TypeId} {f : Nat → Value} {w w1 : World} (h : Below B w w1) (hr : w.rowIs b t n f) (hb : b < B) : w1.rowIs b t n f := hr.of_block (h.block b hb)

/-- THE FIRST len BYTES OF A SLICE at a: f 0, f 1, ..; nothing is said of the address of an empty one -/
def Row (w : World) (a : Option Addr) (len : Nat) (f : Nat → Int) : Prop :=
  len = 0 ∨ ∃ b off, a = some ⟨b, off, none⟩ ∧ b < w.heap.size ∧ ∀ i, i < len → w.cell? ⟨b, off + i, none⟩ = some (.int .u8 (f i))

theorem Row.below {B len : Nat} {w w1 : World} {a : Option Addr} {f : Nat → Int} (h : Row w a len f) (hb : Below B w w1) (hB : w.heap.size ≤ B) : Row w1 a len f := by
  rcases h with h | ⟨b, off, rfl, hl, hc⟩
  · exact Or.inl h
  · refine Or.inr ⟨b, off, rfl, Nat.lt_of_lt_of_le hl hb.size, fun i hi => ?_⟩
    rw [hb.cell (p := ⟨b, off + i, none⟩) (show b < B by omega)]
    exact hc i hi

/-- 'x[k:]' of such a slice -/
theorem Row.cut {w : World} {a ao : Option Addr} {L cap k : Nat} {f : Nat → Int} (h : Row w a L f) (hcap : L ≤ cap) (hao : ¬ cap = k → ao = a.map (·.add k)) : Row w ao (L - k) (fun i => f (k + i)) := by
  by_cases e : L - k = 0
  · exact Or.inl e
  · rcases h with h | ⟨b, off, rfl, hb, hc⟩
    · omega
    · refine Or.inr ⟨b, off + k, ?_, hb, fun i hi => ?_⟩
      · rw [hao (by omega), Option.map_some, Addr.add_lit]
      · rw [Nat.add_assoc]; exact hc (k + i) (by omega)

theorem Row.congr {w : World} {a : Option Addr} {L : Nat} {f g : Nat → Int} (h : Row w a L f) (e : ∀ i, i < L → f i = g i) : Row w a L g := by
  rcases h with h | ⟨b, off, rfl, hb, hc⟩
  · exact Or.inl h
  · exact Or.inr ⟨b, off, rfl, hb, fun i hi => by rw [hc i hi, e i hi]⟩

/-- one round of a fill -/
theorem row_step {w : World} {g n k : Nat} {t : TypeId} {F G : Nat → Value} (h : w.rowIs g t n (fun i => if i < k then F i else G i)) {v : Value} (hv : v = F k) :
    (w.setCell ⟨g, k, none⟩ v).rowIs g t n (fun i => if i < k + 1 then F i else G i) := by
  refine (h.set k v).congr fun i _ => ?_
  show (if i = k then v else if i < k then F i else G i) = if i < k + 1 then F i else G i
  by_cases e : i = k
  · subst e; rw [if_pos rfl, if_pos (by omega), hv]
  · rw [if_neg e]
    by_cases e2 : i < k
    · rw [if_pos e2, if_pos (by omega)]
    · rw [if_neg e2, if_neg (by omega)]

theorem row_end {w : World} {g n : Nat} {t : TypeId} {F G : Nat → Value} (h : w.rowIs g t n (fun i => if i < n then F i else G i)) : w.rowIs g t n F :=
  h.congr fun i hi => by rw [if_pos hi]

theorem row_start {w : World} {g n : Nat} {t : TypeId} {F G : Nat → Value} (h : w.rowIs g t n G) : w.rowIs g t n (fun i => if i < 0 then F i else G i) :=
  h.congr fun i _ => by rw [if_neg (by omega)]

theorem size_alloc (w : World) (o : Obj) : (w.alloc o).heap.size = w.heap.size + 1 := by simp

theorem size_setCell (w : World) (p : Addr) (v : Value) : (w.setCell p v).heap.size = w.heap.size := by simp [World.setCell]

theorem lt_set_alloc {g : Nat} {w : World} {p : Addr} {v : Value} {o : Obj} (h : g < w.heap.size) : g < ((w.setCell p v).alloc o).heap.size := by
  rw [size_alloc, size_setCell]; omega

theorem val_int {k : IntKind} {a b : Int} (h : a = b) : Value.int k a = Value.int k b := by rw [h]

theorem made2 (w : World) (o : Obj) (z : Value) (n : Nat) (t : TypeId) : ((w.alloc o).alloc (.cells (madeCells #[z] n) t)).rowIs (w.heap.size + 1) t n (fun _ => z) := by
  have h := World.rowIs_made (w.alloc o) z n t
  rw [size_alloc] at h
  exact h

end Go.Proofs.Qxb6603239a
