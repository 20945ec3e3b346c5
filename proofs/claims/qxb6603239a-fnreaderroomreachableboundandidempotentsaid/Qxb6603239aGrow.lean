/- (*Reader).Room (11), where the buffer grows. -/
import Derived.Test.Qxb6603239aRoom
import Derived.Deep.DeepMust
import Derived.Deep.DeepCutAuto
namespace Go.Proofs.Qxb6603239a
open Go.RowKit

theorem make0 (n : Nat) (h : n ≤ 2097152) (w : World) :
    (Instr.makeSlice 22 (.int .i64 0) (.int .i64 (n : Int))).run Try.prog w = .ok (.slice (some ⟨w.heap.size, 0, none⟩) 0 n) (w.alloc (.cells (madeCells #[.int .u8 0] n) 5)) := by
  obtain ⟨i, hi, hz0, hz1, hz2⟩ := info_parts Try.info5
  have := run_make (P := Try.prog) w 22 5 i (.int .u8 0) Try.underlying22 hi hz0 .i64 .i64 0 (n : Int) (by omega) (by omega) (by rw [hz2]; omega) (by omega)
  rw [this, hz1, Nat.mul_one]
  rfl

theorem news_at {m : Nat} {h : Nat → Int} {j : Nat} {u : Value} (hu : ((List.range m).map fun i => Value.int .u8 (h i))[j]? = some u) : j < m ∧ u = .int .u8 (h j) := by
  rcases Nat.lt_or_ge j m with hj | hj
  · rw [List.getElem?_map, List.getElem?_range hj] at hu
    simp only [Option.map_some, Option.some.injEq] at hu
    exact ⟨hj, hu.symm⟩
  · rw [List.getElem?_eq_none (by rw [List.length_map, List.length_range]; exact hj)] at hu
    cases hu

/-- 'append(make([]byte, 0, K), x...)' WITHIN K: every cell of the block is known behind it -/
theorem wpList_append_into (w : World) {ops : Array Oper} {rest : List Oper} {o : Oper} {a : Act} {Q : Exit → Act → World → Prop} (hgd : o.guard = none) (s x : Operand)
    (hop : o.op = Op.call { callee := Callee.builtin Builtin.append, args := #[s, x], argTypes := #[22, 22] })
    (g K : Nat) (G h : Nat → Int) (hK2 : K ≤ 2097152) (hs : a.eval s = .slice (some ⟨g, 0, none⟩) 0 K) (hr : w.rowIs g 5 K (fun i => .int .u8 (G i))) (ao : Option Addr) (m c : Nat) (hx : a.eval x = .slice ao m c)
    (hnone : ao = none → m = 0 ∧ c = 0) (hc : Row w ao m h) (b1 : m ≤ K)
    (hK : ∀ w', Hid (w'.rowIs g 5 K (fun i => .int .u8 (if i < m then h i else G i))) → Hid (Kept w w' g g) → wpList Try.prog ops Q rest (a.put o.dst (.slice (some ⟨g, 0, none⟩) m K)) w') :
    wpList Try.prog ops Q (o :: rest) a w := by
  obtain ⟨i0, hi, hz0, hz1, hz2⟩ := info_parts Try.info5
  obtain ⟨cur, hcur, hsz, hcell⟩ := hr
  cases ao with
  | none =>
    obtain ⟨rfl, rfl⟩ := hnone rfl
    refine wpList_plain hgd fun K' hK' => ?_
    have hown : w.ownsRow 0 5 1 (.slice (some ⟨g, 0, none⟩) 0 K) 0 [] := ⟨rfl, .inr ⟨g, K, cur, rfl, Nat.zero_le _, hcur, Nat.zero_le _, by unfold maxLen; omega, by rw [hsz, Nat.mul_one], rfl⟩⟩
    have hrun := run_append_owned_none (P := Try.prog) w 0 22 o.type 5 i0 1 Try.underlying22 hi _ 0 [] hown
    unfold Oper.wp
    simp [execOp, hop, resolve, invoke, builtin, hs, hx, hrun, Result.andThen]
    exact hK' _ _ (hK w (show w.rowIs _ _ _ _ from ⟨cur, hcur, hsz, fun i hi => by
      show cur[i]? = some (Value.int .u8 (if i < 0 then h i else G i))
      rw [if_neg (Nat.not_lt_zero _)]; exact hcell i hi⟩) (Kept.refl _ _ _))
  | some ad =>
    refine wpList_plain hgd fun K' hK' => ?_
    have hlen : ((List.range m).map fun i => Value.int .u8 (h i)).length = m := by rw [List.length_map, List.length_range]
    have hrun := run_append_room (P := Try.prog) w 22 o.type 5 i0 Try.underlying22 hi g 0 K cur hcur ad m c ((List.range m).map fun i => Value.int .u8 (h i)) (by rw [hlen, hz1, Nat.mul_one])
      (fun j u hu => by
        obtain ⟨hj, rfl⟩ := news_at hu
        rcases hc with h0 | ⟨b, off, hb, _, hcc⟩
        · omega
        · cases hb
          rw [Addr.add_lit]
          exact hcc j hj)
      (by
        intro u hu
        obtain ⟨x, _, rfl⟩ := List.mem_map.1 hu
        rfl) (by omega) (by rw [hlen, hz1, hsz]; omega)
    rw [hlen, Nat.zero_mul, Nat.zero_add] at hrun
    obtain ⟨new, hnew⟩ : ∃ new, new = (cur.toList.take 0 ++ ((List.range m).map fun i => Value.int .u8 (h i)) ++ cur.toList.drop m).toArray := ⟨_, rfl⟩
    rw [← hnew] at hrun
    have hnl : new.size = K := by
      rw [hnew, List.size_toArray, List.length_append, List.length_append, hlen, List.length_take, List.length_drop, Array.length_toList, hsz]
      omega
    have hrow : (w.setRow g new).rowIs g 5 K (fun i => .int .u8 (if i < m then h i else G i)) := by
      refine ⟨new, setRow_heap w g cur new 5 (0, 0) hcur, hnl, fun i hi => ?_⟩
      show new[i]? = some (Value.int .u8 (if i < m then h i else G i))
      rw [hnew, List.getElem?_toArray, List.take_zero, List.nil_append]
      by_cases e : i < m
      · rw [if_pos e, List.getElem?_append_left (by rw [hlen]; exact e), List.getElem?_map, List.getElem?_range e]
        rfl
      · rw [if_neg e, List.getElem?_append_right (by rw [hlen]; omega), hlen, List.getElem?_drop, show m + (i - m) = i from by omega, Array.getElem?_toList]
        exact hcell i hi
    unfold Oper.wp
    simp [execOp, hop, resolve, invoke, builtin, hs, hx, hrun, Result.andThen]
    exact hK' _ _ (hK _ hrow ⟨rfl, rfl, rfl, by simp [World.setRow], fun i h1 _ => setRow_other w g i new h1⟩)

theorem row_alloc {w : World} {a : Option Addr} {L : Nat} {f : Nat → Int} (h : Row w a L f) (o : Obj) : Row (w.alloc o) a L f :=
  h.below (B := w.heap.size) ((Below.refl _ _).alloc (Nat.le_refl _) o) (Nat.le_refl _)

theorem reader_alloc {w : World} {g o : Nat} {hd : Value} (h : Reader w g hd o) (x : Obj) : Reader (w.alloc x) g hd o := h.of_block (Below.heap_alloc w x g h.lt)

set_option maxRecDepth 100000 in
set_option maxHeartbeats 800000 in
theorem grow_pos (gr g len cap o : Nat) (f : Nat → Int) (w : World) (hcap : cap ≤ 1048576) (hl : len ≤ cap) (hfull : cap < len + 4096) (ho : 0 < o) (hhalf : cap / 2 < len - o) (hbig : 16384 ≤ cap)
    (hw : Reader w gr (.slice (some ⟨g, 0, none⟩) len cap) o) (hr : Row w (some ⟨g, 0, none⟩) len f) :
    Calls Try.prog 11 #[.pointer (some ⟨gr, 0, none⟩)] w fun e w' => ∃ (gn : Nat) (G : Nat → Int), w.heap.size ≤ gn ∧ e = .returned (.slice (some ⟨gn, len - o, none⟩) (2 * cap - (len - o)) (2 * cap - (len - o))) ∧ Reader w' gr (.slice (some ⟨gn, 0, none⟩) (len - o) (2 * cap)) 0 ∧ Below gr w w' ∧
      w'.rowIs gn 5 (2 * cap) (fun i => .int .u8 (G i)) ∧ ∀ i, i < len - o → G i = f (o + i) := by
  have c0 := hw.c0
  have c1 := hw.c1
  have HW := hid hw
  have HR := hid hr
  have hd1 : decide ((0 : Int) < (o : Int)) = true := decide_eq_true (by omega)
  have hmk : ∀ w : World, (Instr.makeSlice 22 (.int .i64 0) (.int .i64 (2 * (cap : Int)))).run Try.prog w = .ok (.slice (some ⟨w.heap.size, 0, none⟩) 0 (2 * cap)) (w.alloc (.cells (madeCells #[.int .u8 0] (2 * cap)) 5)) := by
    have := make0 (2 * cap) (by omega)
    rw [show ((2 * cap : Nat) : Int) = 2 * (cap : Int) from by omega] at this
    exact this
  have HLT := hid hw.lt
  clear hw hr
  go_enter Try.func11, Try.ntmps11
  go_wp2
  go_quiet (fail)
  obtain ⟨m1, hm1⟩ : ∃ m1, m1 = nq := ⟨nq, rfl⟩
  subst hm1
  go_wp2
  go_quiet (fail)
  go_upto_region 5 with fail
  clear c0 c1
  have HW2 := hid (HW.out.drewN (m1 + nq))
  have B2 := hid (below_drewN (Below.refl w.heap.size w) (m1 + nq))
  have HR2 := hid (show Row (w.drewN (m1 + nq)) (some ⟨g, o, none⟩ : Option Addr) (len - o) (fun i => f (o + i)) from (HR.out.below (B := w.heap.size) (below_drewN (Below.refl _ _) _) (Nat.le_refl _)).cut (cap := cap) hl (fun _ => by rw [Option.map_some, Addr.add_lit, Nat.zero_add]))
  generalize w.drewN (m1 + nq) = w2 at *
  have c0 := HW2.out.c0
  have hgr2 := HW2.out.lt
  have HNO := hid (show (some ⟨g, o, none⟩ : Option Addr) = none → len - o = 0 ∧ cap - o = 0 from fun h => by cases h)
  have HRA := hid (row_alloc HR2.out (.cells (madeCells #[.int .u8 0] (2 * cap)) 5))
  have HWA := hid (reader_alloc HW2.out (.cells (madeCells #[.int .u8 0] (2 * cap)) 5))
  have hngr : gr ≠ w2.heap.size := by omega
  go_wp2_with (at_builtin; go_must (refine wpList_append_into _ rfl (.tmp 63) (.tmp 64) rfl w2.heap.size (2 * cap) (fun _ => 0) (fun i => f (o + i)) (by omega) rfl (World.rowIs_made _ _ _ _) ((some ⟨g, o, none⟩ : Option Addr)) (len - o) (cap - o) rfl HNO.out HRA.out (by omega) ?_); intro w3 hr3 hk3; have HW3 := hid (HWA.out.of_block (hk3.out.block gr hngr hngr)); have d0 := HW3.out.c0; have d1 := HW3.out.c1; have g0 := HW3.out.free 0; have g1 := HW3.out.free 1)
  have R := reader_end HW3.out (.slice (some ⟨w2.heap.size, 0, none⟩) (len - o) (2 * cap))
  have HR4 := hid (R.2.row hr3.out hngr.symm hngr.symm)
  have B4 := hid ((((B2.out.mono (Nat.le_of_lt HLT.out)).alloc (Nat.le_of_lt hgr2) _).trans (hk3.out.below (Nat.le_of_lt hgr2) (Nat.le_of_lt hgr2))).trans (R.2.below (Nat.le_refl _) (Nat.le_refl _)))
  have HW4 := hid R.1
  have HSZ := hid B2.out.size
  clear R d0 d1 g0 g1 c0
  generalize ((w3.setCell ⟨gr, 0, none⟩ (.slice (some ⟨w2.heap.size, 0, none⟩) (len - o) (2 * cap))).setCell ⟨gr, 1, none⟩ (.int .i64 0)) = w4 at *
  have c0 := HW4.out.c0
  have hce : ¬ 2 * cap = len - o := by omega
  go_quiet (fail)
  go_wp2
  go_ret
  exact ⟨w2.heap.size, _, HSZ.out, rfl, HW4.out.drewN nq, below_drewN B4.out nq, row_drewN HR4.out nq, fun i hi => if_pos hi⟩

set_option maxRecDepth 100000 in
set_option maxHeartbeats 800000 in
theorem grow_start (gr g len cap : Nat) (f : Nat → Int) (w : World) (hcap : cap ≤ 1048576) (hl : len ≤ cap) (hfull : cap < len + 4096) (hbig : 16384 ≤ cap)
    (hw : Reader w gr (.slice (some ⟨g, 0, none⟩) len cap) 0) (hr : Row w (some ⟨g, 0, none⟩) len f) :
    Calls Try.prog 11 #[.pointer (some ⟨gr, 0, none⟩)] w fun e w' => ∃ (gn : Nat) (G : Nat → Int), w.heap.size ≤ gn ∧ e = .returned (.slice (some ⟨gn, len, none⟩) (2 * cap - len) (2 * cap - len)) ∧ Reader w' gr (.slice (some ⟨gn, 0, none⟩) len (2 * cap)) 0 ∧ Below gr w w' ∧
      w'.rowIs gn 5 (2 * cap) (fun i => .int .u8 (G i)) ∧ ∀ i, i < len → G i = f (0 + i) := by
  have c0 := hw.c0
  have c1 : w.cell? ⟨gr, 1, none⟩ = some (.int .i64 0) := hw.c1
  have HW := hid hw
  have HR := hid hr
  have hmk : ∀ w : World, (Instr.makeSlice 22 (.int .i64 0) (.int .i64 (2 * (cap : Int)))).run Try.prog w = .ok (.slice (some ⟨w.heap.size, 0, none⟩) 0 (2 * cap)) (w.alloc (.cells (madeCells #[.int .u8 0] (2 * cap)) 5)) := by
    have := make0 (2 * cap) (by omega)
    rw [show ((2 * cap : Nat) : Int) = 2 * (cap : Int) from by omega] at this
    exact this
  have HLT := hid hw.lt
  clear hw hr
  go_enter Try.func11, Try.ntmps11
  go_wp2
  go_quiet (fail)
  obtain ⟨m1, hm1⟩ : ∃ m1, m1 = nq := ⟨nq, rfl⟩
  subst hm1
  go_wp2
  go_quiet (fail)
  go_upto_region 5 with fail
  clear c0 c1
  have HW2 := hid (HW.out.drewN (m1 + nq))
  have B2 := hid (below_drewN (Below.refl w.heap.size w) (m1 + nq))
  have HR2 := hid (show Row (w.drewN (m1 + nq)) (some ⟨g, 0, none⟩ : Option Addr) (len) (fun i => f (0 + i)) from (HR.out.below (B := w.heap.size) (below_drewN (Below.refl _ _) _) (Nat.le_refl _)).congr (fun i _ => by rw [Nat.zero_add]))
  generalize w.drewN (m1 + nq) = w2 at *
  have c0 := HW2.out.c0
  have hgr2 := HW2.out.lt
  have HNO := hid (show (some ⟨g, 0, none⟩ : Option Addr) = none → len = 0 ∧ cap = 0 from fun h => by cases h)
  have HRA := hid (row_alloc HR2.out (.cells (madeCells #[.int .u8 0] (2 * cap)) 5))
  have HWA := hid (reader_alloc HW2.out (.cells (madeCells #[.int .u8 0] (2 * cap)) 5))
  have hngr : gr ≠ w2.heap.size := by omega
  go_wp2_with (at_builtin; go_must (refine wpList_append_into _ rfl (.tmp 63) (.tmp 64) rfl w2.heap.size (2 * cap) (fun _ => 0) (fun i => f (0 + i)) (by omega) rfl (World.rowIs_made _ _ _ _) ((some ⟨g, 0, none⟩ : Option Addr)) (len) (cap) rfl HNO.out HRA.out (by omega) ?_); intro w3 hr3 hk3; have HW3 := hid (HWA.out.of_block (hk3.out.block gr hngr hngr)); have d0 := HW3.out.c0; have d1 := HW3.out.c1; have g0 := HW3.out.free 0; have g1 := HW3.out.free 1)
  have R := reader_end HW3.out (.slice (some ⟨w2.heap.size, 0, none⟩) (len) (2 * cap))
  have HR4 := hid (R.2.row hr3.out hngr.symm hngr.symm)
  have B4 := hid ((((B2.out.mono (Nat.le_of_lt HLT.out)).alloc (Nat.le_of_lt hgr2) _).trans (hk3.out.below (Nat.le_of_lt hgr2) (Nat.le_of_lt hgr2))).trans (R.2.below (Nat.le_refl _) (Nat.le_refl _)))
  have HW4 := hid R.1
  have HSZ := hid B2.out.size
  clear R d0 d1 g0 g1 c0
  generalize ((w3.setCell ⟨gr, 0, none⟩ (.slice (some ⟨w2.heap.size, 0, none⟩) (len) (2 * cap))).setCell ⟨gr, 1, none⟩ (.int .i64 0)) = w4 at *
  have c0 := HW4.out.c0
  have hce : ¬ 2 * cap = len := by omega
  go_quiet (fail)
  go_wp2
  go_ret
  exact ⟨w2.heap.size, _, HSZ.out, rfl, HW4.out.drewN nq, below_drewN B4.out nq, row_drewN HR4.out nq, fun i hi => if_pos hi⟩

set_option maxRecDepth 100000 in
set_option maxHeartbeats 800000 in
theorem grow_zero (gr : Nat) (a : Option Addr) (f : Nat → Int) (w : World) (hw : Reader w gr (.slice a 0 0) 0) :
    Calls Try.prog 11 #[.pointer (some ⟨gr, 0, none⟩)] w fun e w' => ∃ (gn : Nat) (G : Nat → Int), w.heap.size ≤ gn ∧ e = .returned (.slice (some ⟨gn, 0, none⟩) 16384 16384) ∧ Reader w' gr (.slice (some ⟨gn, 0, none⟩) 0 16384) 0 ∧ Below gr w w' ∧
      w'.rowIs gn 5 16384 (fun i => .int .u8 (G i)) ∧ ∀ i, i < 0 → G i = f (0 + i) := by
  have c0 := hw.c0
  have c1 : w.cell? ⟨gr, 1, none⟩ = some (.int .i64 0) := hw.c1
  have HW := hid hw
  have hmk : ∀ w : World, (Instr.makeSlice 22 (.int .i64 0) (.int .i64 16384)).run Try.prog w = .ok (.slice (some ⟨w.heap.size, 0, none⟩) 0 16384) (w.alloc (.cells (madeCells #[.int .u8 0] 16384) 5)) :=
    fun w => make0 16384 (by omega) w
  have HLT := hid hw.lt
  clear hw
  go_enter Try.func11, Try.ntmps11
  go_wp2
  go_quiet (fail)
  obtain ⟨m1, hm1⟩ : ∃ m1, m1 = nq := ⟨nq, rfl⟩
  subst hm1
  go_wp2
  go_quiet (fail)
  go_upto_region 5 with fail
  clear c0 c1
  have HW2 := hid (HW.out.drewN (m1 + nq))
  have B2 := hid (below_drewN (Below.refl w.heap.size w) (m1 + nq))
  have HR2 := hid (show Row (w.drewN (m1 + nq)) a (0) (fun i => f (0 + i)) from Or.inl rfl)
  generalize w.drewN (m1 + nq) = w2 at *
  have c0 := HW2.out.c0
  have hgr2 := HW2.out.lt
  have HNO := hid (show a = none → 0 = 0 ∧ 0 = 0 from fun _ => ⟨rfl, rfl⟩)
  have HRA := hid (row_alloc HR2.out (.cells (madeCells #[.int .u8 0] (16384)) 5))
  have HWA := hid (reader_alloc HW2.out (.cells (madeCells #[.int .u8 0] (16384)) 5))
  have hngr : gr ≠ w2.heap.size := by omega
  go_wp2_with (at_builtin; go_must (refine wpList_append_into _ rfl (.tmp 63) (.tmp 64) rfl w2.heap.size (16384) (fun _ => 0) (fun i => f (0 + i)) (by omega) rfl (World.rowIs_made _ _ _ _) (a) (0) (0) rfl HNO.out HRA.out (by omega) ?_); intro w3 hr3 hk3; have HW3 := hid (HWA.out.of_block (hk3.out.block gr hngr hngr)); have d0 := HW3.out.c0; have d1 := HW3.out.c1; have g0 := HW3.out.free 0; have g1 := HW3.out.free 1)
  have R := reader_end HW3.out (.slice (some ⟨w2.heap.size, 0, none⟩) (0) (16384))
  have HR4 := hid (R.2.row hr3.out hngr.symm hngr.symm)
  have B4 := hid ((((B2.out.mono (Nat.le_of_lt HLT.out)).alloc (Nat.le_of_lt hgr2) _).trans (hk3.out.below (Nat.le_of_lt hgr2) (Nat.le_of_lt hgr2))).trans (R.2.below (Nat.le_refl _) (Nat.le_refl _)))
  have HW4 := hid R.1
  have HSZ := hid B2.out.size
  clear R d0 d1 g0 g1 c0
  generalize ((w3.setCell ⟨gr, 0, none⟩ (.slice (some ⟨w2.heap.size, 0, none⟩) (0) (16384))).setCell ⟨gr, 1, none⟩ (.int .i64 0)) = w4 at *
  have c0 := HW4.out.c0
  have hce : ¬ 16384 = 0 := by omega
  go_quiet (fail)
  go_wp2
  go_ret
  exact ⟨w2.heap.size, _, HSZ.out, rfl, HW4.out.drewN nq, below_drewN B4.out nq, row_drewN HR4.out nq, fun i hi => if_pos hi⟩
end Go.Proofs.Qxb6603239a
