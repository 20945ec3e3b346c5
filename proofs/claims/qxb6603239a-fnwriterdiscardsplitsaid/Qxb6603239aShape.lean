/- Discard (18) from whatever state, and zzDiscardShape (21). -/
import Derived.Test.Qxb6603239aDiscard
namespace Go.Proofs.Qxb6603239a
open Go.RowKit

/-- 'x[k:]' with its address under a name (k as the walk writes it) -/
theorem cut_named (a : Option Addr) (L cap k : Nat) (z : Int) (hz : z = (k : Int)) (hk : k ≤ L) : ∃ ao : Option Addr, (¬ cap = k → ao = a.map (·.add k)) ∧
    ∀ w : World, (Instr.slice 22 (.slice a L cap) (some (.int .i64 z)) none none).run Try.prog w = .ok (.slice ao (L - k) (cap - k)) w := by
  subst hz
  refine ⟨if cap = k then a else a.map (·.add k), fun h => if_neg h, fun w => ?_⟩
  have := run_slice_l (P := Try.prog) w 22 a L cap (by kernel_rfl) .i64 (k : Int) (by omega) (by omega)
  have hs : (sizeOf (Try.prog.elem 22)).run Try.prog w = .ok 1 w := by kernel_rfl
  rw [this, hs]
  simp [sliced, Result.andThen]

/-- the buffer of the writer at gw: nil; or block gb, its first len bytes F -/
def Buf2 (w : World) (gw gb : Nat) (a : Option Addr) (len cap : Nat) (F : Nat → Int) : Prop :=
  (a = none ∧ len = 0 ∧ cap = 0) ∨ (a = some ⟨gb, 0, none⟩ ∧ len ≤ cap ∧ gw ≠ gb ∧ ∃ G : Nat → Value, w.rowIs gb 5 cap G ∧ ∀ i, i < len → G i = .int .u8 (F i))

theorem Buf2.cap {w : World} {gw gb : Nat} {a : Option Addr} {len cap : Nat} {F : Nat → Int} (h : Buf2 w gw gb a len cap F) : len ≤ cap := by
  rcases h with ⟨_, h1, h2⟩ | ⟨_, h, _⟩
  · omega
  · exact h

theorem Buf2.row {w : World} {gw gb : Nat} {a : Option Addr} {len cap : Nat} {F : Nat → Int} (h : Buf2 w gw gb a len cap F) : Row w a len F := by
  rcases h with ⟨_, h1, _⟩ | ⟨rfl, h1, _, G, hr, hG⟩
  · exact Or.inl h1
  · exact Or.inr ⟨gb, 0, rfl, hr.lt, fun i hi => by rw [Nat.zero_add, hr.cell (i := i) (by omega), hG i hi]⟩

theorem Buf2.drewN {w : World} {gw gb : Nat} {a : Option Addr} {len cap : Nat} {F : Nat → Int} (h : Buf2 w gw gb a len cap F) (m : Nat) : Buf2 (w.drewN m) gw gb a len cap F := by
  rcases h with h | ⟨h1, h2, h3, G, hr, hG⟩
  · exact Or.inl h
  · exact Or.inr ⟨h1, h2, h3, G, row_drewN hr m, hG⟩

theorem Buf2.kept {w w' : World} {gw gb g1 g2 : Nat} {a : Option Addr} {len cap : Nat} {F : Nat → Int} (h : Buf2 w gw gb a len cap F) (k : Kept w w' g1 g2) (h1 : gb ≠ g1) (h2 : gb ≠ g2) : Buf2 w' gw gb a len cap F := by
  rcases h with h | ⟨e1, e2, e3, G, hr, hG⟩
  · exact Or.inl h
  · exact Or.inr ⟨e1, e2, e3, G, k.row hr h1 h2, hG⟩

/-- A WRITER's STATE: K bytes are discarded; the rest of the L bytes f is what it holds; its memory is at most C -/
structure St (w : World) (gw gb C L K : Nat) (f : Nat → Int) (a : Option Addr) (len cap o : Nat) (F : Nat → Int) : Prop where
  writer : Writer w gw (.slice a len cap) o
  buf : Buf2 w gw gb a len cap F
  off : o ≤ len
  left : len - o = L - K
  bytes : ∀ i, i < len - o → F (o + i) = f (K + i)
  most : cap ≤ C

theorem St.drewN {w : World} {gw gb C L K : Nat} {f : Nat → Int} {a : Option Addr} {len cap o : Nat} {F : Nat → Int} (h : St w gw gb C L K f a len cap o F) (m : Nat) : St (w.drewN m) gw gb C L K f a len cap o F :=
  ⟨h.writer.drewN m, h.buf.drewN m, h.off, h.left, h.bytes, h.most⟩

theorem St.kept {w w' : World} {gw gb g1 g2 C L K : Nat} {f : Nat → Int} {a : Option Addr} {len cap o : Nat} {F : Nat → Int} (h : St w gw gb C L K f a len cap o F) (k : Kept w w' g1 g2)
    (h1 : gb ≠ g1) (h2 : gb ≠ g2) (h3 : gw ≠ g1) (h4 : gw ≠ g2) : St w' gw gb C L K f a len cap o F :=
  ⟨World.rowIs.of_block h.writer (k.block gw h3 h4), h.buf.kept k h1 h2, h.off, h.left, h.bytes, h.most⟩

theorem discard_st (gw gb C L K n : Nat) (f : Nat → Int) (a : Option Addr) (len cap o : Nat) (F : Nat → Int) (w : World) (hC : C ≤ 1048576) (hn : n ≤ L - K) (h : St w gw gb C L K f a len cap o F) :
    Calls Try.prog 18 #[.pointer (some ⟨gw, 0, none⟩), .int .i64 (n : Int)] w fun e w' => e = .returned (.tuple #[]) ∧ Kept w w' gw gb ∧
      ∃ (a' : Option Addr) (len' cap' o' : Nat) (F' : Nat → Int), St w' gw gb C L (K + n) f a' len' cap' o' F' ∧ 2 * o' ≤ cap' := by
  obtain ⟨hw, hb, ho, hle, hby, hmo⟩ := h
  have hlc := hb.cap
  by_cases hk : o + n < len
  · rcases hb with ⟨_, h0, _⟩ | ⟨rfl, e2, e3, G, hr, hG⟩
    · omega
    · by_cases hh : cap / 2 < o + n
      · refine (discard_move gw gb len cap o n F G w (by omega) e2 hk hh e3 hw hr hG).mono ?_
        rintro e w' ⟨rfl, h1, h2, G', h3, h4⟩
        refine ⟨rfl, h2, some ⟨gb, 0, none⟩, len - (o + n), cap, 0, fun i => F (o + n + i), ⟨h1, Or.inr ⟨rfl, by omega, e3, G', h3, h4⟩, Nat.zero_le _, by omega, fun i hi => ?_, hmo⟩, by omega⟩
        show F (o + n + (0 + i)) = f (K + n + i)
        have := hby (n + i) (by omega)
        rw [Nat.zero_add, Nat.add_assoc, this, Nat.add_assoc]
      · refine (discard_keep gw len cap o n (some ⟨gb, 0, none⟩) w (by omega) hk (by omega) hw).mono ?_
        rintro e w' ⟨rfl, h1, h2⟩
        refine ⟨rfl, h2.left, some ⟨gb, 0, none⟩, len, cap, o + n, F, ⟨h1, Or.inr ⟨rfl, e2, e3, G, h2.row hr e3.symm e3.symm, hG⟩, by omega, by omega, fun i hi => ?_, hmo⟩, by omega⟩
        have := hby (n + i) (by omega)
        rw [Nat.add_assoc, this, Nat.add_assoc]
  · have hkl : o + n = len := by omega
    by_cases hbig : 65536 < cap
    · refine (discard_drop gw len cap o n a w (by omega) hkl hlc hbig hw).mono ?_
      rintro e w' ⟨rfl, h1, h2⟩
      exact ⟨rfl, h2.left, none, 0, 0, 0, F, ⟨h1, Or.inl ⟨rfl, rfl, rfl⟩, Nat.le_refl _, by omega, fun i hi => absurd hi (by omega), Nat.zero_le _⟩, by omega⟩
    · refine (discard_empty gw len cap o n a w (by omega) hkl hlc hw).mono ?_
      rintro e w' ⟨rfl, h1, h2⟩
      refine ⟨rfl, h2.left, a, 0, cap, 0, F, ⟨h1, ?_, Nat.le_refl _, by omega, fun i hi => absurd hi (by omega), hmo⟩, by omega⟩
      rcases hb with ⟨e1, _, e3⟩ | ⟨e1, e2, e3, G, hr, hG⟩
      · exact Or.inl ⟨e1, rfl, e3⟩
      · exact Or.inr ⟨e1, Nat.zero_le _, e3, G, h2.row hr e3.symm e3.symm, fun i hi => absurd hi (Nat.not_lt_zero _)⟩

set_option maxRecDepth 100000 in
set_option maxHeartbeats 800000 in
theorem shape_any (gw gb C L K : Nat) (f : Nat → Int) (a : Option Addr) (len cap o : Nat) (F : Nat → Int) (ar : Option Addr) (cr : Nat) (w : World) (hC : C ≤ 1048576) (hKL : K ≤ L) (hLC : L ≤ C) (hhalf : 2 * o ≤ cap)
    (h : St w gw gb C L K f a len cap o F) (hr : Row w ar (L - K) (fun i => f (K + i))) :
    Calls Try.prog 21 #[.pointer (some ⟨gw, 0, none⟩), .slice ar (L - K) cr, .int .i64 (C : Int)] w fun e w' => e = .returned (.bool true) ∧ ∃ m, w' = w.drewN m := by
  obtain ⟨hw, hb, ho, hle, hby, hmo⟩ := h
  have hlc := hb.cap
  have HW := hid hw
  have HB := hid hb
  have HBY := hid hby
  have HR := hid hr
  obtain ⟨ao, hao, hsl⟩ := cut_named a len cap o (o : Int) rfl ho
  have HAO := hid hao
  have hsl2 : ∀ w : World, (Instr.slice 22 (.slice a len cap) (some (.int .i64 (o : Int))) none none).run Try.prog w = .ok (.slice ao (L - K) (cap - o)) w := by rw [← hle]; exact hsl
  have HLE := hid hle
  have hcC : (C : Int) ≤ 1048576 := by omega
  clear hw hb hby hr hao hsl hle hC
  go_enter Try.func21, Try.ntmps21
  go_wp2_with fail
  refine (state_any gw _ _ _ _ _ HW.out.c0 HW.out.c1).mono ?_
  rintro e w1 ⟨rfl, m1, hw1⟩
  have HX1 := hid (show Row w1 ao (L - K) (fun i => f (K + i)) from by
    have := (HB.out.row.cut (k := o) (cap := cap) (ao := ao) hlc HAO.out).congr (g := fun i => f (K + i)) (fun i hi => HBY.out i hi)
    rw [HLE.out] at this
    rw [hw1]
    exact this.below (B := w.heap.size) (below_drewN (Below.refl _ _) m1) (Nat.le_refl _))
  have HX2 := hid (show Row w1 ar (L - K) (fun i => f (K + i)) from by rw [hw1]; exact HR.out.below (B := w.heap.size) (below_drewN (Below.refl _ _) m1) (Nat.le_refl _))
  have HW1 := hid hw1
  clear hw1
  go_wp2_with fail
  refine (same_any _ _ _ _ _ (fun i => f (K + i)) _ (by omega) HX1.out HX2.out).mono ?_
  rintro e w2 ⟨rfl, m2, hw2⟩
  have HW2 := hid hw2
  clear hw2
  go_wp2
  go_ret
  exact ⟨rfl, m1 + m2, by rw [HW2.out, HW1.out, World.drewN_drewN]⟩
end Go.Proofs.Qxb6603239a
