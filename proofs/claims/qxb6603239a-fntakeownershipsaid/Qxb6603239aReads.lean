/- ZZTake (24) as a reader sees it: whichever way, argument i reads as the bytes of span i. -/
import Derived.Test.Qxb6603239aZZTake
namespace Go.Proofs.Qxb6603239a
open Go.RowKit

/-- ARGUMENT i: empty, or at an address where the bytes of span i lie -/
def Args (w : World) (n : Nat) (adr : Nat → Option Addr) (f : Nat → Int) (s t : Nat → Nat) : Prop :=
  ∀ i, i < n → t i = s i ∨ ∃ gx ox, adr i = some ⟨gx, ox, none⟩ ∧ gx < w.heap.size ∧ ∀ q, q < t i - s i → w.cell? ⟨gx, ox + q, none⟩ = some (.int .u8 (f (s i + q)))

theorem row_drewN {w : World} {g n : Nat} {t : TypeId} {F : Nat → Value} (h : w.rowIs g t n F) (m : Nat) : (w.drewN m).rowIs g t n F := by
  induction m with
  | zero => exact h
  | succ m ih => exact ih.drew

theorem args_drewN {w : World} {n : Nat} {adr : Nat → Option Addr} {f : Nat → Int} {s t : Nat → Nat} (h : Args w n adr f s t) (m : Nat) : Args (w.drewN m) n adr f s t := by
  induction m with
  | zero => exact h
  | succ m ih => exact ih

theorem args_below {B : Nat} {w w1 : World} {n : Nat} {adr : Nat → Option Addr} {f : Nat → Int} {s t : Nat → Nat} (h : Args w n adr f s t) (hb : Below B w w1) (hB : w.heap.size ≤ B) : Args w1 n adr f s t := by
  intro i hi
  rcases h i hi with e | ⟨gx, ox, h1, h2, h3⟩
  · exact Or.inl e
  · refine Or.inr ⟨gx, ox, h1, Nat.lt_of_lt_of_le h2 hb.size, fun q hq => ?_⟩
    rw [hb.cell (p := ⟨gx, ox + q, none⟩) (show gx < B by omega)]
    exact h3 q hq

theorem row_of_rowIs {w : World} {g L : Nat} {f : Nat → Int} (h : w.rowIs g 5 L (fun i => .int .u8 (f i))) : Row w (some ⟨g, 0, none⟩) L f :=
  Or.inr ⟨g, 0, rfl, h.lt, fun i hi => by rw [Nat.zero_add]; exact h.cell hi⟩

theorem zztake_reads (al : Bool) (g1 g2 n L cap : Nat) (ab : Option Addr) (f : Nat → Int) (s t : Nat → Nat) (w : World) (hn : n ≤ 8192) (hL : L ≤ 131072) (hcap : L ≤ cap) (hab : ab = none → L = 0 ∧ cap = 0) (hst : ∀ i, i < n → s i ≤ t i ∧ t i ≤ L)
    (hrow : Row w ab L f) (hal : decide (65536 < pre s t n) = al) (hr1 : w.rowIs g1 3 n (fun i => .int .i64 (s i))) (hr2 : w.rowIs g2 3 n (fun i => .int .i64 (t i))) :
    Calls Try.prog 24 #[.slice (some ⟨g1, 0, none⟩) n n, .slice (some ⟨g2, 0, none⟩) n n, .slice ab L cap] w fun e w' => ∃ (ga : Nat) (adr : Nat → Option Addr), e = .returned (.tuple #[.slice (some ⟨ga, 0, none⟩) n n, .bool al]) ∧ w.heap.size ≤ ga ∧
      w'.rowIs ga 22 n (fun i => .slice (adr i) (t i - s i) (t i - s i)) ∧ Below w.heap.size w w' ∧ Args w' n adr f s t := by
  by_cases hbig : 65536 < pre s t n
  · rcases hrow with h0 | ⟨bb, boff, rfl, hbl, hcell⟩
    · have := pre_zero (s := s) (t := t) (n := n) (fun i hi => by have := (hst i hi).2; omega) n (Nat.le_refl _)
      omega
    · refine (zztake_alias g1 g2 n bb boff L cap s t w hn hL hcap hst hbig hr1 hr2).mono ?_
      rintro e w' ⟨ga, adr, rfl, h1, h2, h3, h4⟩
      refine ⟨ga, adr, by rw [← hal, decide_eq_true hbig], h1, h2, h3, fun i hi => ?_⟩
      rcases h4 i hi with e | e
      · exact Or.inl e
      · refine Or.inr ⟨bb, boff + s i, e, Nat.lt_of_lt_of_le hbl h3.size, fun q hq => ?_⟩
        have := hst i hi
        rw [h3.cell (p := ⟨bb, boff + s i + q, none⟩) hbl, Nat.add_assoc]
        exact hcell (s i + q) (by omega)
  · refine (zztake_own g1 g2 n L cap ab f s t w hn hL hcap hab hst (by omega) hrow hr1 hr2).mono ?_
    rintro e w' ⟨gb, adr, rfl, h1, h2, h3, h4, h5⟩
    refine ⟨gb + 1, adr, by rw [← hal, decide_eq_false hbig], by omega, h2, h3, fun i hi => ?_⟩
    rcases h4 i hi with e | e
    · exact Or.inl e
    · refine Or.inr ⟨gb, pre s t i, e, h5.lt, fun q hq => ?_⟩
      have hm : pre s t i + (t i - s i) ≤ pre s t n := pre_mono (s := s) (t := t) (i := i + 1) n (by omega)
      rw [h5.cell (i := pre s t i + q) (by omega), List.getD_eq_getElem?_getD, flat_get f s t i q hq n hi]
      rfl
end Go.Proofs.Qxb6603239a
