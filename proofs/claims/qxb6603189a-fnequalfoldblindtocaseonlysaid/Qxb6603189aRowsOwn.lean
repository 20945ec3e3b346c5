/- A ROW OF NUMBERS THAT THE CALL ITSELF MADE: small laws, over any program. -/
import Derived.WalkKit
namespace Go.Proofs.Qxb6603189a
open Go.RowKit

theorem hid {p : Prop} (h : p) : Hid p := h

/-- block g is the call's own (from base on), its n cells hold the numbers zs of kind k, at element type e -/
def Buf (w : World) (base : Nat) (e : TypeId) (k : IntKind) (g n : Nat) (zs : List Int) : Prop :=
  zs.length = n ∧ w.ownsRow base e 1 (.slice (some ⟨g, 0, none⟩) n n) n (zs.map (Value.int k))

theorem Buf.cell {w : World} {base : Nat} {e : TypeId} {k : IntKind} {g n : Nat} {zs : List Int} (h : Buf w base e k g n zs) (j : Nat) (hj : j < n) :
    w.cell? ⟨g, j, none⟩ = some (.int k (zs.getD j 0)) := by
  rw [h.2.cellAt j (by omega)]
  have hl : j < zs.length := by rw [h.1]; exact hj
  rw [List.getElem?_map, List.getD_eq_getElem?_getD, List.getElem?_eq_getElem hl]
  rfl

theorem Buf.free {w : World} {base : Nat} {e : TypeId} {k : IntKind} {g n : Nat} {zs : List Int} (h : Buf w base e k g n zs) (j : Nat) : w.frozen? ⟨g, j, none⟩ = false :=
  h.2.frozenAt j

theorem Buf.store {w : World} {base : Nat} {e : TypeId} {k : IntKind} {g n : Nat} {zs : List Int} (h : Buf w base e k g n zs) (j : Nat) (z : Int) :
    Buf (w.setCell ⟨g, j, none⟩ (.int k z)) base e k g n (zs.set j z) := by
  refine ⟨by rw [List.length_set]; exact h.1, ?_⟩
  rw [List.map_set]
  exact (h.2.stored j (.int k z)).1

theorem Buf.base {w : World} {base : Nat} {e : TypeId} {k : IntKind} {g n : Nat} {zs : List Int} (h : Buf w base e k g n zs) : base ≤ g ∧ g < w.heap.size :=
  h.2.lt g rfl

theorem Buf.made {w : World} {base : Nat} {e : TypeId} {k : IntKind} {g n : Nat} (h : w.ownsRow base e 1 (.slice (some ⟨g, 0, none⟩) n n) n (madeCells #[Value.int k 0] n).toList) :
    Buf w base e k g n (List.replicate n 0) := by
  refine ⟨List.length_replicate, ?_⟩
  have e1 : (madeCells #[Value.int k 0] n).toList = (List.replicate n (0 : Int)).map (Value.int k) := by
    rw [List.map_replicate]
    exact toList_madeCells_one _ _
  rw [← e1]
  exact h

theorem getD_set_same (zs : List Int) (k : Nat) (z d : Int) (h : k < zs.length) : (zs.set k z).getD k d = z := by
  rw [List.getD_eq_getElem?_getD, List.getElem?_set_self h]
  rfl

theorem getD_set_other (zs : List Int) (j k : Nat) (z d : Int) (h : j ≠ k) : (zs.set k z).getD j d = zs.getD j d := by
  rw [List.getD_eq_getElem?_getD, List.getD_eq_getElem?_getD, List.getElem?_set_ne (fun e => h e.symm)]

/-- one round of a fill: the first k stand; number k is stored -/
theorem fill_step {zs : List Int} {F : Nat → Int} {k : Nat} {z : Int} (hk : k < zs.length) (h : ∀ j, j < k → zs.getD j 0 = F j) (hz : z = F k) : ∀ j, j < k + 1 → (zs.set k z).getD j 0 = F j := fun j hj => by
  by_cases e : j = k
  · subst e; rw [getD_set_same _ _ _ _ hk, hz]
  · rw [getD_set_other _ _ _ _ _ e]; exact h j (by omega)

theorem ext_getD {xs ys : List Int} (hl : xs.length = ys.length) (h : ∀ j, j < xs.length → xs.getD j 0 = ys.getD j 0) : xs = ys := by
  apply List.ext_getElem hl
  intro j h1 h2
  have := h j h1
  rw [List.getD_eq_getElem?_getD, List.getD_eq_getElem?_getD, List.getElem?_eq_getElem h1, List.getElem?_eq_getElem h2] at this
  exact this

end Go.Proofs.Qxb6603189a
