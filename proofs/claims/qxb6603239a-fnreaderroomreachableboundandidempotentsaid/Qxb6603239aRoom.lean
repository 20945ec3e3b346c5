/- (*Reader).Room (11). -/
import Derived.Test.Qxb6603239aBacking
import Derived.Laws.CopyRow
import Derived.Laws.IdiomCopy
import Derived.BigRegion
namespace Go.Proofs.Qxb6603239a
open Go.RowKit

set_option maxRecDepth 100000 in
set_option maxHeartbeats 400000 in
theorem room_same (gr g len cap o : Nat) (w : World) (hcap : cap ≤ 4194304) (hroom : len + 4096 ≤ cap) (hw : Reader w gr (.slice (some ⟨g, 0, none⟩) len cap) o) :
    Calls Try.prog 11 #[.pointer (some ⟨gr, 0, none⟩)] w fun e w' => e = .returned (.slice (some ⟨g, len, none⟩) (cap - len) (cap - len)) ∧ ∃ m, w' = w.drewN m := by
  have c0 := hw.c0
  have hne : ¬ cap = len := by omega
  clear hw
  go_enter Try.func11, Try.ntmps11
  go_wp2
  go_quiet (fail)
  obtain ⟨m1, hm1⟩ : ∃ m1, m1 = nq := ⟨nq, rfl⟩
  subst hm1
  go_wp2
  go_quiet (fail)
  go_wp2
  go_ret
  exact ⟨rfl, m1 + nq, by rw [World.drewN_drewN]⟩

/-- 'copy(b, b[k:])' in a block of bytes: what runs, and every cell behind it -/
theorem copy_ints (w : World) (gb len cap k : Nat) (G : Nat → Int) (hl : len ≤ cap) (hk : k ≤ len) (ad : Option Addr) (hne : k < len → ad = some ⟨gb, k, none⟩) (hr : w.rowIs gb 5 cap (fun i => .int .u8 (G i))) :
    ∃ w', (∀ ty, (Builtin.copy_ #[22, 22] ty #[.slice (some ⟨gb, 0, none⟩) len cap, .slice ad (len - k) (cap - k)]).run Try.prog w = .ok (.int .i64 ((len - k : Nat) : Int)) w') ∧
      Kept w w' gb gb ∧ w'.rowIs gb 5 cap (fun i => .int .u8 (if i < len - k then G (k + i) else G i)) := by
  by_cases hkl : k = len
  · subst hkl
    refine ⟨w, fun ty => ?_, Kept.refl _ _ _, hr.congr fun i _ => by rw [if_neg (by omega)]⟩
    have := run_copy_none (P := Try.prog) w 22 22 ty 5 (some ⟨gb, 0, none⟩) ad k cap (k - k) (cap - k) Try.underlying22 (by kernel_rfl) (by rw [Nat.sub_self]; exact Nat.zero_min _)
    rw [this, Nat.sub_self]
    rfl
  · rw [hne (by omega)]
    obtain ⟨cur, hcur, hsz, hcell⟩ := hr
    have hlen : ((List.range (len - k)).map fun i => Value.int .u8 (G (k + i))).length = len - k := by rw [List.length_map, List.length_range]
    have hrun := fun ty => run_copy_row (P := Try.prog) w 22 22 ty 5 gb 0 len cap ⟨gb, k, none⟩ (len - k) (cap - k) cur 5 ((List.range (len - k)).map fun i => Value.int .u8 (G (k + i))) Try.underlying22 (by kernel_rfl) hcur
      (by rw [hlen]; exact (Nat.min_eq_left (by omega)).symm)
      (fun j v hj => by
        have hjl : j < len - k := by
          rcases Nat.lt_or_ge j (len - k) with h | h
          · exact h
          · rw [List.getElem?_eq_none (by rw [hlen]; exact h)] at hj
            cases hj
        rw [List.getElem?_map, List.getElem?_range hjl] at hj
        simp only [Option.map_some, Option.some.injEq] at hj
        subst hj
        rw [Addr.add_lit]
        have := hcell (k + j) (by omega)
        simp [World.cell?, hcur, this])
      (by rw [hlen]; omega)
      (by
        intro u hu
        obtain ⟨x, _, rfl⟩ := List.mem_map.1 hu
        rfl)
    rw [hlen] at hrun
    obtain ⟨new, hnew⟩ : ∃ new, new = (cur.toList.take 0 ++ ((List.range (len - k)).map fun i => Value.int .u8 (G (k + i))) ++ cur.toList.drop (0 + (len - k))).toArray := ⟨_, rfl⟩
    rw [← hnew] at hrun
    have hnl : new.size = cap := by
      rw [hnew, List.size_toArray, List.length_append, List.length_append, hlen, List.length_take, List.length_drop, Array.length_toList, hsz]
      omega
    refine ⟨w.setRow gb new, fun ty => hrun ty, ⟨rfl, rfl, rfl, by simp [World.setRow], fun i h1 _ => setRow_other w gb i new h1⟩, ⟨new, setRow_heap w gb cur new 5 (0, 0) hcur, hnl, fun i hi => ?_⟩⟩
    show new[i]? = some (Value.int .u8 (if i < len - k then G (k + i) else G i))
    rw [hnew, List.getElem?_toArray, List.take_zero, List.nil_append]
    by_cases e : i < len - k
    · rw [if_pos e, List.getElem?_append_left (by rw [hlen]; exact e), List.getElem?_map, List.getElem?_range e]
      rfl
    · rw [if_neg e, List.getElem?_append_right (by rw [hlen]; omega), hlen, List.getElem?_drop, Nat.zero_add, show len - k + (i - (len - k)) = i from by omega, Array.getElem?_toList]
      exact hcell i hi

theorem kept_drew {w w1 : World} {g1 g2 : Nat} (h : Kept w w1 g1 g2) : Kept w w1.drew g1 g2 := ⟨h.os, h.tape, h.output, h.size, h.block⟩

theorem reader_end {w : World} {g o : Nat} {hd : Value} (h : Reader w g hd o) (hd' : Value) :
    Reader ((w.setCell ⟨g, 0, none⟩ hd').setCell ⟨g, 1, none⟩ (.int .i64 0)) g hd' 0 ∧ Kept w ((w.setCell ⟨g, 0, none⟩ hd').setCell ⟨g, 1, none⟩ (.int .i64 0)) g g := by
  have k3 : Kept w (w.setCell ⟨g, 0, none⟩ hd') g g := (Kept.refl w g g).setCell (p := ⟨g, 0, none⟩) (Or.inl rfl) _
  exact ⟨h.reset hd', k3.setCell (p := ⟨g, 1, none⟩) (Or.inl rfl) _⟩

set_option maxRecDepth 100000 in
set_option maxHeartbeats 400000 in
theorem room_move_lt (gr g len cap o : Nat) (G : Nat → Int) (w : World) (hcap : cap ≤ 1048576) (hl : len ≤ cap) (hfull : cap < len + 4096) (ho : 0 < o) (hol : o ≤ len) (hoc : ¬ cap = o) (hhalf : len - o ≤ cap / 2) (hbig : 16384 ≤ cap) (hne : gr ≠ g)
    (hw : Reader w gr (.slice (some ⟨g, 0, none⟩) len cap) o) (hr : w.rowIs g 5 cap (fun i => .int .u8 (G i))) :
    Calls Try.prog 11 #[.pointer (some ⟨gr, 0, none⟩)] w fun e w' => e = .returned (.slice (some ⟨g, len - o, none⟩) (cap - (len - o)) (cap - (len - o))) ∧ Reader w' gr (.slice (some ⟨g, 0, none⟩) (len - o) cap) 0 ∧ Kept w w' gr g ∧
      w'.rowIs g 5 cap (fun i => .int .u8 (if i < len - o then G (o + i) else G i)) := by
  have c0 := hw.c0
  have c1 := hw.c1
  have HW := hid hw
  have HR := hid hr
  have hd1 : decide ((0 : Int) < (o : Int)) = true := decide_eq_true (by omega)
  clear hw hr
  go_enter Try.func11, Try.ntmps11
  go_wp2
  go_quiet (fail)
  obtain ⟨m1, hm1⟩ : ∃ m1, m1 = nq := ⟨nq, rfl⟩
  subst hm1
  go_wp2
  go_quiet (fail)
  go_wp2
  have HW2 := hid (HW.out.drewN (m1 + nq))
  have K2 := hid ((Kept.refl w gr gr).drewN (m1 + nq))
  generalize w.drewN (m1 + nq) = w2 at *
  clear c0 c1
  have hr2 : w2.rowIs g 5 cap (fun i => .int .u8 (G i)) := HR.out.of_block (K2.out.block g hne.symm hne.symm)
  obtain ⟨w3, hcopy, hk3, hrow3⟩ := copy_ints w2.drew g len cap o G hl hol (some ⟨g, o, none⟩) (fun _ => rfl) hr2
  have K3 := hid hk3
  have HR3 := hid hrow3
  have HW3 := hid (show Reader w3 gr (.slice (some ⟨g, 0, none⟩) len cap) o from HW2.out.of_block (hk3.block gr hne hne))
  have c0 := HW2.out.c0
  have d0 := HW3.out.c0
  have g0 := HW3.out.free 0
  have d1 := HW3.out.c1
  have g1 := HW3.out.free 1
  have hcp := hcopy 3
  clear hk3 hrow3 hr2 hcopy
  go_region
  go_wp2
  have R := reader_end HW3.out (.slice (some ⟨g, 0, none⟩) (len - o) cap)
  have KE := hid ((K2.out.left (g2 := g)).trans ((K3.out.right (g1 := gr)).ofDrew.trans (R.2.left (g2 := g))))
  have HR4 := hid (R.2.row HR3.out hne.symm hne.symm)
  have HW4 := hid R.1
  clear R d0 d1 g0 g1 hcp c0
  generalize ((w3.setCell ⟨gr, 0, none⟩ (.slice (some ⟨g, 0, none⟩) (len - o) cap)).setCell ⟨gr, 1, none⟩ (.int .i64 0)) = w4 at *
  have c0 := HW4.out.c0
  have hce : ¬ cap = len - o := by omega
  go_quiet (fail)
  go_wp2
  go_ret
  exact ⟨rfl, HW4.out.drewN nq, KE.out.drewN nq, row_drewN HR4.out nq⟩

set_option maxRecDepth 100000 in
set_option maxHeartbeats 400000 in
theorem room_move_eq (gr g cap : Nat) (G : Nat → Int) (w : World) (hcap : cap ≤ 1048576) (hbig : 16384 ≤ cap) (hne : gr ≠ g)
    (hw : Reader w gr (.slice (some ⟨g, 0, none⟩) cap cap) cap) (hr : w.rowIs g 5 cap (fun i => .int .u8 (G i))) :
    Calls Try.prog 11 #[.pointer (some ⟨gr, 0, none⟩)] w fun e w' => e = .returned (.slice (some ⟨g, 0, none⟩) cap cap) ∧ Reader w' gr (.slice (some ⟨g, 0, none⟩) 0 cap) 0 ∧ Kept w w' gr g ∧
      w'.rowIs g 5 cap (fun i => .int .u8 (G i)) := by
  have c0 := hw.c0
  have c1 := hw.c1
  have HW := hid hw
  have HR := hid hr
  have hd1 : decide ((0 : Int) < (cap : Int)) = true := decide_eq_true (by omega)
  clear hw hr
  go_enter Try.func11, Try.ntmps11
  go_wp2
  go_quiet (fail)
  obtain ⟨m1, hm1⟩ : ∃ m1, m1 = nq := ⟨nq, rfl⟩
  subst hm1
  go_wp2
  go_quiet (fail)
  go_wp2
  have HW2 := hid (HW.out.drewN (m1 + nq))
  have K2 := hid ((Kept.refl w gr gr).drewN (m1 + nq))
  have HR2 := hid (row_drewN HR.out (m1 + nq))
  generalize w.drewN (m1 + nq) = w2 at *
  clear c0 c1
  have hcp : (Builtin.copy_ #[22, 22] 3 #[.slice (some ⟨g, 0, none⟩) cap cap, .slice (some ⟨g, 0, none⟩) 0 0]).run Try.prog w2.drew = .ok (.int .i64 0) w2.drew :=
    run_copy_none (P := Try.prog) w2.drew 22 22 3 5 (some ⟨g, 0, none⟩) (some ⟨g, 0, none⟩) cap cap 0 0 Try.underlying22 (by kernel_rfl) (Nat.zero_min _)
  have c0 := HW2.out.c0
  have g0 := HW2.out.free 0
  have c1 := HW2.out.c1
  have g1 := HW2.out.free 1
  go_region
  go_wp2
  have R := reader_end HW2.out (.slice (some ⟨g, 0, none⟩) 0 cap)
  have KE := hid (kept_drew ((K2.out.left (g2 := g)).trans (R.2.left (g2 := g))))
  have HR4 := hid (show (((w2.setCell ⟨gr, 0, none⟩ (.slice (some ⟨g, 0, none⟩) 0 cap)).setCell ⟨gr, 1, none⟩ (.int .i64 0)).drew).rowIs g 5 cap (fun i => .int .u8 (G i)) from (R.2.row HR2.out hne.symm hne.symm).drew)
  have HW4 := hid (show Reader (((w2.setCell ⟨gr, 0, none⟩ (.slice (some ⟨g, 0, none⟩) 0 cap)).setCell ⟨gr, 1, none⟩ (.int .i64 0)).drew) gr (.slice (some ⟨g, 0, none⟩) 0 cap) 0 from R.1)
  clear R c0 c1 g0 g1 hcp
  generalize ((w2.setCell ⟨gr, 0, none⟩ (.slice (some ⟨g, 0, none⟩) 0 cap)).setCell ⟨gr, 1, none⟩ (.int .i64 0)).drew = w4 at *
  have c0 := HW4.out.c0
  go_quiet (fail)
  go_wp2
  go_ret
  exact ⟨rfl, HW4.out.drewN nq, KE.out.drewN nq, row_drewN HR4.out nq⟩

end Go.Proofs.Qxb6603239a
