/- FROM WHAT CAME IN to what the walks ask: slices of bytes, slices of spans. -/
import Derived.Test.Qxb6603239aBase
import Derived.Test.Qxb6603239aSplit
import Derived.ProofKit
import Derived.OpenShut
import Derived.Deep.SlicePairs
namespace Go.Proofs.Qxb6603239a
open Go.ChangeShapes Go.WideShapes Go.ChangeAt Go.RowKit

/-- a slice of integers that came in (the shell's own words) -/
def IsRow (k : IntKind) (w : World) (a : Option Addr) (len cap : Nat) (zs : List Int) : Prop :=
  (a = none ∧ len = 0 ∧ cap = 0 ∧ zs = []) ∨
  ∃ x, a = some x ∧ len ≤ cap ∧ cap ≤ maxLen ∧ zs.length = cap ∧ (∀ i, i < zs.length → w.cell? (x.add i) = some (.int k (zs.getD i 0))) ∧ ∀ n ∈ zs, (Lit.int k n).wf = true

theorem addr_at {w : World} {x : Addr} {v : Value} (h : w.cell? (x.add 0) = some v) : ∃ b off, x = ⟨b, off, none⟩ ∧ b < w.heap.size := by
  obtain ⟨b, off, spot⟩ := x
  have hs : spot = none := by simpa [Addr.add] using World.cell?_spot h
  subst hs
  refine ⟨b, off, rfl, ?_⟩
  have := World.block_lt_of_cell? w _ h
  rw [Addr.add_lit] at this
  exact this

theorem row_of_isRow {w : World} {a : Option Addr} {len cap : Nat} {zs : List Int} (h : IsRow .u8 w a len cap zs) :
    Row w a len (fun i => zs.getD i 0) ∧ (a = none → len = 0 ∧ cap = 0) ∧ len ≤ cap ∧ cap ≤ maxLen ∧ (∀ i, 0 ≤ zs.getD i 0 ∧ zs.getD i 0 ≤ 255) := by
  rcases h with ⟨rfl, rfl, rfl, rfl⟩ | ⟨x, rfl, hl, hm, hz, hcell, hwz⟩
  · exact ⟨Or.inl rfl, fun _ => ⟨rfl, rfl⟩, Nat.le_refl _, Nat.zero_le _, fun i => by simp⟩
  · refine ⟨?_, fun h => (by cases h), hl, hm, fun i => ?_⟩
    · by_cases h0 : len = 0
      · exact Or.inl h0
      · obtain ⟨b, off, rfl, hb⟩ := addr_at (hcell 0 (by omega))
        refine Or.inr ⟨b, off, rfl, hb, fun i hi => ?_⟩
        have := hcell i (by omega)
        rw [Addr.add_lit] at this
        exact this
    · rcases Nat.lt_or_ge i zs.length with h | h
      · have hm : zs.getD i 0 ∈ zs := by
          rw [List.getD_eq_getElem?_getD, List.getElem?_eq_getElem h]
          exact List.getElem_mem h
        exact bounds_u8 (hwz _ hm)
      · rw [List.getD_eq_getElem?_getD, List.getElem?_eq_none h]
        simp

theorem spans_of {w : World} {x : Addr} {len m : Nat} {V0 V1 : Nat → Value} (hlm : len ≤ m)
    (hx : ∀ i, i < m → w.cell? (x.add (i * 2)) = some (V0 i) ∧ w.cell? (x.add (i * 2 + 1)) = some (V1 i) ∧ V0 i = .int .i64 (intOf (V0 i)) ∧ V1 i = .int .i64 (intOf (V1 i))) :
    Spans w (some x) len (fun i => intOf (V0 i)) (fun i => intOf (V1 i)) := by
  by_cases h0 : len = 0
  · exact Or.inl h0
  · obtain ⟨b, off, rfl, hb⟩ := addr_at (x := x) (by have := (hx 0 (by omega)).1; simpa using this)
    refine Or.inr ⟨b, off, rfl, hb, fun i hi => ?_⟩
    obtain ⟨h1, h2, h3, h4⟩ := hx i (by omega)
    rw [Addr.add_lit] at h1 h2
    rw [← h3, ← h4]
    exact ⟨h1, by rw [← h2, Nat.add_assoc]⟩

theorem Try.cells44 : Try.prog.cellsOf 44 = 2 := by kernel_rfl
theorem Try.cells3 : Try.prog.cellsOf 3 = 1 := by kernel_rfl
end Go.Proofs.Qxb6603239a
