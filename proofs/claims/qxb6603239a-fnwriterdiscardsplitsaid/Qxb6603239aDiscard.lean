/- (*Writer).Discard (18). -/
import Derived.Test.Qxb6603239aSame
import Derived.Laws.CopyRow
import Derived.BigRegion
namespace Go.Proofs.Qxb6603239a
open Go.RowKit

/-- THE WRITER at block g: its buffer's header hd, its offset o -/
def Writer (w : World) (g : Nat) (hd : Value) (o : Nat) : Prop := w.rowIs g 59 2 (fun i => if i = 0 then hd else .int .i64 (o : Int))

theorem Writer.c0 {w : World} {g o : Nat} {hd : Value} (h : Writer w g hd o) : w.cell? ⟨g, 0, none⟩ = some hd := World.rowIs.cell h (by omega)
theorem Writer.c1 {w : World} {g o : Nat} {hd : Value} (h : Writer w g hd o) : w.cell? ⟨g, 1, none⟩ = some (.int .i64 (o : Int)) := World.rowIs.cell h (by omega)
theorem Writer.set1 {w : World} {g o o' : Nat} {hd : Value} {z : Int} (h : Writer w g hd o) (hz : z = (o' : Int)) : Writer (w.setCell ⟨g, 1, none⟩ (.int .i64 z)) g hd o' := by
  refine (World.rowIs.set h 1 _).congr fun i hi => ?_
  show (if i = 1 then Value.int .i64 z else if i = 0 then hd else .int .i64 (o : Int)) = if i = 0 then hd else .int .i64 (o' : Int)
  by_cases e : i = 0
  · subst e; rw [if_neg (by omega), if_pos rfl, if_pos rfl]
  · rw [if_pos (by omega), if_neg e, hz]
theorem Writer.drewN {w : World} {g o : Nat} {hd : Value} (h : Writer w g hd o) (m : Nat) : Writer (w.drewN m) g hd o := row_drewN h m
theorem Writer.set0 {w : World} {g o : Nat} {hd hd' : Value} (h : Writer w g hd o) : Writer (w.setCell ⟨g, 0, none⟩ hd') g hd' o := by
  refine (World.rowIs.set h 0 _).congr fun i hi => ?_
  show (if i = 0 then hd' else if i = 0 then hd else .int .i64 (o : Int)) = if i = 0 then hd' else .int .i64 (o : Int)
  by_cases e : i = 0
  · rw [if_pos e, if_pos e]
  · rw [if_neg e, if_neg e, if_neg e]

theorem wr_reset {w : World} {g o : Nat} {hd : Value} (h : Writer w g hd o) (z : Int) (m : Nat) (hd' : Value) :
    Writer ((((w.setCell ⟨g, 1, none⟩ (.int .i64 z)).drewN m).setCell ⟨g, 0, none⟩ hd').setCell ⟨g, 1, none⟩ (.int .i64 0)) g hd' 0 ∧ Kept w ((((w.setCell ⟨g, 1, none⟩ (.int .i64 z)).drewN m).setCell ⟨g, 0, none⟩ hd').setCell ⟨g, 1, none⟩ (.int .i64 0)) g g := by
  have h1 : (w.setCell ⟨g, 1, none⟩ (.int .i64 z)).rowIs g 59 2 (fun i => if i = 0 then hd else .int .i64 z) := by
    refine (World.rowIs.set h 1 _).congr fun i hi => ?_
    show (if i = 1 then Value.int .i64 z else if i = 0 then hd else .int .i64 (o : Int)) = if i = 0 then hd else .int .i64 z
    by_cases e : i = 0
    · subst e; rw [if_neg (by omega), if_pos rfl, if_pos rfl]
    · rw [if_pos (by omega), if_neg e]
  have k1 : Kept w (w.setCell ⟨g, 1, none⟩ (.int .i64 z)) g g := (Kept.refl w g g).setCell (p := ⟨g, 1, none⟩) (Or.inl rfl) _
  have k2 := k1.drewN m
  have h2 := row_drewN h1 m
  generalize (w.setCell ⟨g, 1, none⟩ (.int .i64 z)).drewN m = w2 at *
  have k3 : Kept w (w2.setCell ⟨g, 0, none⟩ hd') g g := k2.setCell (p := ⟨g, 0, none⟩) (Or.inl rfl) _
  have h3 := h2.set 0 hd'
  generalize w2.setCell ⟨g, 0, none⟩ hd' = w3 at *
  refine ⟨?_, k3.setCell (p := ⟨g, 1, none⟩) (Or.inl rfl) _⟩
  refine (h3.set 1 (.int .i64 0)).congr fun i hi => ?_
  show (if i = 1 then Value.int .i64 0 else if i = 0 then hd' else if i = 0 then hd else .int .i64 z) = if i = 0 then hd' else .int .i64 ((0 : Nat) : Int)
  by_cases e : i = 0
  · subst e; rw [if_neg (by omega), if_pos rfl, if_pos rfl]
  · rw [if_pos (by omega), if_neg e]; rfl

theorem wr_end {w : World} {g o : Nat} {hd : Value} (h : Writer w g hd o) (hd' : Value) :
    Writer ((w.setCell ⟨g, 0, none⟩ hd').setCell ⟨g, 1, none⟩ (.int .i64 0)) g hd' 0 ∧ Kept w ((w.setCell ⟨g, 0, none⟩ hd').setCell ⟨g, 1, none⟩ (.int .i64 0)) g g := by
  have k3 : Kept w (w.setCell ⟨g, 0, none⟩ hd') g g := (Kept.refl w g g).setCell (p := ⟨g, 0, none⟩) (Or.inl rfl) _
  have h3 := World.rowIs.set h 0 hd'
  generalize w.setCell ⟨g, 0, none⟩ hd' = w3 at *
  refine ⟨?_, k3.setCell (p := ⟨g, 1, none⟩) (Or.inl rfl) _⟩
  refine (h3.set 1 (.int .i64 0)).congr fun i hi => ?_
  show (if i = 1 then Value.int .i64 0 else if i = 0 then hd' else if i = 0 then hd else .int .i64 (o : Int)) = if i = 0 then hd' else .int .i64 ((0 : Nat) : Int)
  by_cases e : i = 0
  · subst e; rw [if_neg (by omega), if_pos rfl, if_pos rfl]
  · rw [if_pos (by omega), if_neg e]; rfl

/-- 'copy(b, b[k:])' in block gb: what runs, and what lies there behind it -/
theorem copy_down (w : World) (gb len cap k : Nat) (f : Nat → Int) (F : Nat → Value) (hl : len ≤ cap) (hk : k < len) (hr : w.rowIs gb 5 cap F) (hF : ∀ i, i < len → F i = .int .u8 (f i)) :
    ∃ w', (∀ ty, (Builtin.copy_ #[22, 22] ty #[.slice (some ⟨gb, 0, none⟩) len cap, .slice (some ⟨gb, k, none⟩) (len - k) (cap - k)]).run Try.prog w = .ok (.int .i64 ((len - k : Nat) : Int)) w') ∧
      Kept w w' gb gb ∧ ∃ F', w'.rowIs gb 5 cap F' ∧ ∀ i, i < len - k → F' i = .int .u8 (f (k + i)) := by
  obtain ⟨cur, hcur, hsz, hcell⟩ := hr
  have hlen : ((List.range (len - k)).map fun i => Value.int .u8 (f (k + i))).length = len - k := by rw [List.length_map, List.length_range]
  have hrun := fun ty => run_copy_row (P := Try.prog) w 22 22 ty 5 gb 0 len cap ⟨gb, k, none⟩ (len - k) (cap - k) cur 5 ((List.range (len - k)).map fun i => Value.int .u8 (f (k + i))) Try.underlying22 (by kernel_rfl) hcur
    (by rw [hlen]; exact (Nat.min_eq_left (by omega)).symm)
    (fun j v hj => by
      have hjl : j < len - k := by
        rcases Nat.lt_or_ge j (len - k) with h | h
        · exact h
        · rw [List.getElem?_eq_none (by rw [hlen]; exact h)] at hj
          cases hj
      rw [List.getElem?_map, List.getElem?_range hjl] at hj
      simp only [Option.map_some, Option.some.injEq] at hj
      subst hj
      rw [Addr.add_lit]
      have := hcell (k + j) (by omega)
      rw [hF (k + j) (by omega)] at this
      simp [World.cell?, hcur, this])
    (by rw [hlen]; omega)
    (by
      intro u hu
      obtain ⟨x, _, rfl⟩ := List.mem_map.1 hu
      rfl)
  rw [hlen] at hrun
  obtain ⟨new, hnew⟩ : ∃ new, new = (cur.toList.take 0 ++ ((List.range (len - k)).map fun i => Value.int .u8 (f (k + i))) ++ cur.toList.drop (0 + (len - k))).toArray := ⟨_, rfl⟩
  rw [← hnew] at hrun
  have hnl : new.size = cap := by
    rw [hnew, List.size_toArray, List.length_append, List.length_append, hlen, List.length_take, List.length_drop, Array.length_toList, hsz]
    omega
  refine ⟨w.setRow gb new, fun ty => hrun ty, ⟨rfl, rfl, rfl, by simp [World.setRow], fun i h1 _ => setRow_other w gb i new h1⟩, fun i => (new[i]?).getD undef, ⟨new, setRow_heap w gb cur new 5 (0, 0) hcur, hnl, fun i hi => ?_⟩, fun i hi => ?_⟩
  · show new[i]? = some ((new[i]?).getD undef)
    rw [Array.getElem?_eq_getElem (by omega)]
    rfl
  · show (new[i]?).getD undef = _
    have e : new[i]? = some (.int .u8 (f (k + i))) := by
      rw [hnew, List.getElem?_toArray, List.take_zero, List.nil_append, List.getElem?_append_left (by rw [hlen]; exact hi), List.getElem?_map, List.getElem?_range hi]
      rfl
    rw [e]
    rfl

set_option maxRecDepth 100000 in
set_option maxHeartbeats 400000 in
theorem discard_keep (gw len cap o n : Nat) (a : Option Addr) (w : World) (hcap : cap ≤ 1048576) (ho : o + n < len) (hhalf : o + n ≤ cap / 2) (hw : Writer w gw (.slice a len cap) o) :
    Calls Try.prog 18 #[.pointer (some ⟨gw, 0, none⟩), .int .i64 (n : Int)] w fun e w' => e = .returned (.tuple #[]) ∧ Writer w' gw (.slice a len cap) (o + n) ∧ Kept w w' gw gw := by
  have c0 := hw.c0
  have c1 := hw.c1
  have f1 := World.rowIs.frozen hw 1
  have HW := hid hw
  clear hw
  go_enter Try.func18, Try.ntmps18
  go_wp2
  go_quiet (fail)
  go_wp2
  go_quiet (fail)
  go_wp2
  go_end0
  exact ⟨rfl, row_drewN (row_drewN (HW.out.set1 (by omega)) _) _, (((Kept.refl _ _ _).setCell (Or.inl rfl) _).drewN _).drewN _⟩

set_option maxRecDepth 100000 in
set_option maxHeartbeats 400000 in
theorem discard_drop (gw len cap o n : Nat) (a : Option Addr) (w : World) (hcap : cap ≤ 1048576) (ho : o + n = len) (hl : len ≤ cap) (hbig : 65536 < cap) (hw : Writer w gw (.slice a len cap) o) :
    Calls Try.prog 18 #[.pointer (some ⟨gw, 0, none⟩), .int .i64 (n : Int)] w fun e w' => e = .returned (.tuple #[]) ∧ Writer w' gw (.slice none 0 0) 0 ∧ Kept w w' gw gw := by
  have c0 := hw.c0
  have c1 := hw.c1
  have f0 := World.rowIs.frozen hw 0
  have f1 := World.rowIs.frozen hw 1
  have HW := hid hw
  have h1 : len ≤ o + n := by omega
  have h2 : o + n ≤ len := by omega
  clear hw ho
  go_enter Try.func18, Try.ntmps18
  go_wp2
  go_quiet (fail)
  go_wp2
  have R := wr_reset HW.out ((o : Int) + (n : Int)) nq (.slice none 0 0)
  go_end0
  exact ⟨rfl, R.1, R.2⟩

set_option maxRecDepth 100000 in
set_option maxHeartbeats 400000 in
theorem discard_empty (gw len cap o n : Nat) (a : Option Addr) (w : World) (hsm : cap ≤ 65536) (ho : o + n = len) (hl : len ≤ cap) (hw : Writer w gw (.slice a len cap) o) :
    Calls Try.prog 18 #[.pointer (some ⟨gw, 0, none⟩), .int .i64 (n : Int)] w fun e w' => e = .returned (.tuple #[]) ∧ Writer w' gw (.slice a 0 cap) 0 ∧ Kept w w' gw gw := by
  have c0 := hw.c0
  have c1 := hw.c1
  have f0 := World.rowIs.frozen hw 0
  have f1 := World.rowIs.frozen hw 1
  have HW := hid hw
  have h1 : len ≤ o + n := by omega
  have h2 : o + n ≤ len := by omega
  clear hw ho
  go_enter Try.func18, Try.ntmps18
  go_wp2
  go_quiet (fail)
  go_wp2
  have R := wr_reset HW.out ((o : Int) + (n : Int)) nq (.slice a 0 cap)
  go_end0
  exact ⟨rfl, R.1, R.2⟩

set_option maxRecDepth 100000 in
set_option maxHeartbeats 400000 in
theorem discard_move (gw gb len cap o n : Nat) (f : Nat → Int) (F : Nat → Value) (w : World) (hcap : cap ≤ 1048576) (hl : len ≤ cap) (ho : o + n < len) (hhalf : cap / 2 < o + n) (hne : gw ≠ gb)
    (hw : Writer w gw (.slice (some ⟨gb, 0, none⟩) len cap) o) (hr : w.rowIs gb 5 cap F) (hF : ∀ i, i < len → F i = .int .u8 (f i)) :
    Calls Try.prog 18 #[.pointer (some ⟨gw, 0, none⟩), .int .i64 (n : Int)] w fun e w' => e = .returned (.tuple #[]) ∧ Writer w' gw (.slice (some ⟨gb, 0, none⟩) (len - (o + n)) cap) 0 ∧ Kept w w' gw gb ∧
      ∃ F', w'.rowIs gb 5 cap F' ∧ ∀ i, i < len - (o + n) → F' i = .int .u8 (f (o + n + i)) := by
  have c0 := hw.c0
  have c1 := hw.c1
  have f1 := World.rowIs.frozen hw 1
  have HW := hid hw
  have HR := hid hr
  have HF := hid hF
  clear hw hr hF
  go_enter Try.func18, Try.ntmps18
  go_wp2
  go_quiet (fail)
  obtain ⟨m1, hm1⟩ : ∃ m1, m1 = nq := ⟨nq, rfl⟩
  subst hm1
  go_wp2
  go_quiet (fail)
  go_wp2
  have HW2 := hid (((HW.out.set1 (o' := o + n) (z := (o : Int) + (n : Int)) (by omega)).drewN m1).drewN nq)
  have K2 := hid ((((Kept.refl w gw gw).setCell (p := ⟨gw, 1, none⟩) (Or.inl rfl) (.int .i64 ((o : Int) + (n : Int)))).drewN m1).drewN nq)
  generalize (((w.setCell ⟨gw, 1, none⟩ (.int .i64 ((o : Int) + (n : Int)))).drewN m1).drewN nq) = w2 at *
  clear c0 c1 f1
  have hr2 : w2.rowIs gb 5 cap F := HR.out.of_block (K2.out.block gb hne.symm hne.symm)
  obtain ⟨w3, hcopy, hk3, F', hrow3, hF3⟩ := copy_down w2.drew gb len cap (o + n) f F hl ho hr2 HF.out
  have K3 := hid hk3
  have HR3 := hid hrow3
  have HF3 := hid hF3
  have c0 : w2.cell? ⟨gw, 0, none⟩ = some (.slice (some ⟨gb, 0, none⟩) len cap) := HW2.out.c0
  have c1 : w2.cell? ⟨gw, 1, none⟩ = some (.int .i64 ((o : Int) + (n : Int))) := by rw [HW2.out.c1]; rfl
  have HW3 := hid (show Writer w3 gw (.slice (some ⟨gb, 0, none⟩) len cap) (o + n) from World.rowIs.of_block HW2.out (hk3.block gw hne hne))
  have d0 : w3.cell? ⟨gw, 0, none⟩ = some (.slice (some ⟨gb, 0, none⟩) len cap) := HW3.out.c0
  have d1 : w3.cell? ⟨gw, 1, none⟩ = some (.int .i64 ((o : Int) + (n : Int))) := by rw [HW3.out.c1]; rfl
  have g0 := World.rowIs.frozen HW3.out 0
  have g1 := World.rowIs.frozen HW3.out 1
  have hck : ¬ cap = o + n := by omega
  have hcp := hcopy 3
  clear hk3 hrow3 hF3 hr2 hcopy
  go_region
  go_wp2
  have R := wr_end (HW3.out) (.slice (some ⟨gb, 0, none⟩) (len - (o + n)) cap)
  have KE := (K2.out.left (g2 := gb)).trans ((K3.out.right (g1 := gw)).ofDrew.trans (R.2.left (g2 := gb)))
  have HR4 := R.2.row HR3.out hne.symm hne.symm
  go_end0
  exact ⟨rfl, R.1, KE, F', HR4, HF3.out⟩

theorem writer_new (w : World) (hd : Value) (o : Nat) : Writer (w.alloc (.cells #[hd, .int .i64 (o : Int)] 59)) w.heap.size hd o :=
  World.rowIs_alloc w #[hd, .int .i64 (o : Int)] 59 _ (fun i hi => by
    have : i = 0 ∨ i = 1 := by simp at hi; omega
    rcases this with rfl | rfl <;> rfl)

theorem Bufd.alloc {w : World} {base len cap : Nat} {a : Option Addr} {f : Nat → Int} (h : Bufd w base a len cap f) (o : Obj) : Bufd (w.alloc o) base a len cap f := by
  rcases h with h | ⟨g, F, h1, h2, h3, h4, h5⟩
  · exact Or.inl h
  · exact Or.inr ⟨g, F, h1, h2, h3, h4.alloc o, h5⟩

theorem Bufd.lt {w : World} {base len cap : Nat} {a : Option Addr} {f : Nat → Int} (h : Bufd w base a len cap f) : ∀ g, a = some ⟨g, 0, none⟩ → base ≤ g ∧ g < w.heap.size := by
  intro g hg
  rcases h with ⟨h, _⟩ | ⟨g', F, h1, h2, h3, h4, h5⟩
  · rw [h] at hg; cases hg
  · rw [h1] at hg
    cases hg
    exact ⟨h2, h4.lt⟩

/-- the buffer's bytes, as a reader sees them -/
theorem Bufd.row {w : World} {base len cap : Nat} {a : Option Addr} {f : Nat → Int} (h : Bufd w base a len cap f) : Row w a len f := by
  rcases h with ⟨_, h, _⟩ | ⟨g, F, rfl, _, h3, h4, h5⟩
  · exact Or.inl h
  · exact Or.inr ⟨g, 0, rfl, h4.lt, fun i hi => by rw [Nat.zero_add, h4.cell (by omega), h5 i hi]⟩
end Go.Proofs.Qxb6603239a
