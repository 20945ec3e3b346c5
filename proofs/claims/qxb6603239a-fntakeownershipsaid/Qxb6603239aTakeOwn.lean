/- (*parser).take (27), where the arguments are copied. -/
import Derived.Test.Qxb6603239aTake
import Derived.Deep.DeepMust
namespace Go.Proofs.Qxb6603239a
open Go.RowKit

theorem make_bytes (n : Nat) (h : n ≤ 1048576) (w : World) :
    (Instr.makeSlice 22 (.int .i64 0) (.int .i64 (n : Int))).run Try.prog w = .ok (.slice (some ⟨w.heap.size, 0, none⟩) 0 n) (w.alloc (.cells (madeCells #[.int .u8 0] n) 5)) := by
  obtain ⟨i, hi, hz0, hz1, hz2⟩ := info_parts Try.info5
  have := run_make (P := Try.prog) w 22 5 i (.int .u8 0) Try.underlying22 hi hz0 .i64 .i64 0 (n : Int) (by omega) (by omega) (by rw [hz2]; omega) (by omega)
  rw [this, hz1, Nat.mul_one]
  rfl

/-- the cells that 'buf[s:t]...' hands to append -/
theorem news_cells {w : World} {ab ao : Option Addr} {L s t : Nat} {f : Nat → Int} (hr : Row w ab L f) (ht : t ≤ L) (hao : s < t → ao = ab.map (·.add s)) :
    ∀ ad, ao = some ad → ∀ j u, ((List.range (t - s)).map fun j => Value.int .u8 (f (s + j)))[j]? = some u → w.cell? (ad.add j) = some u := by
  intro ad had j u hu
  have hj : j < t - s := by
    rcases Nat.lt_or_ge j (t - s) with h | h
    · exact h
    · rw [List.getElem?_eq_none (by rw [List.length_map, List.length_range]; exact h)] at hu
      cases hu
  rw [List.getElem?_map, List.getElem?_range hj] at hu
  simp only [Option.map_some, Option.some.injEq] at hu
  subst hu
  rcases hr with h0 | ⟨b, off, rfl, _, hcell⟩
  · omega
  · rw [hao (by omega)] at had
    simp only [Option.map_some, Option.some.injEq] at had
    subst had
    have h1 := hcell (s + j) (by omega)
    rw [Addr.add_lit, Addr.add_lit, Nat.add_assoc]
    exact h1

theorem none_cut {ab : Option Addr} {g : Addr → Addr} {L cap s t : Nat} (hab : ab = none → L = 0 ∧ cap = 0) (ht : t ≤ L) : (if cap = s then ab else ab.map g) = none → t - s = 0 ∧ cap - s = 0 := by
  intro h
  have hn : ab = none := by
    by_cases e : cap = s
    · rw [if_pos e] at h; exact h
    · rw [if_neg e] at h
      cases ab with
      | none => rfl
      | some x => cases h
  have := hab hn
  omega

theorem one_cells (f : Nat → Int) (m : Nat) : ∀ u ∈ (List.range m).map (fun x => Value.int .u8 (f x)), u.oneCell' = true := by
  intro u hu
  obtain ⟨x, _, rfl⟩ := List.mem_map.1 hu
  rfl

theorem cell_alloc {w : World} {o : Obj} {a : Addr} {v : Value} (h : w.cell? a = some v) : (w.alloc o).cell? a = some v := by
  rw [World.cell?_alloc_lt _ _ _ (World.block_lt_of_cell? w a h)]
  exact h

theorem grown_row {w w' : World} {o : Obj} {g b n : Nat} {t : TypeId} {F : Nat → Value} (h : w.rowIs b t n F) (hg : (w.alloc o).grownBy w' (some g)) (hne : b ≠ g) : w'.rowIs b t n F :=
  (h.alloc o).of_block (hg.block b (h.alloc o).lt (fun e => hne (Option.some.inj e)))

theorem own_set_other {w : World} {base : Nat} {e : TypeId} {size g n c : Nat} {xs : List Value} {p : Addr} {v : Value} (h : w.ownsRow base e size (.slice (some ⟨g, 0, none⟩) n c) n xs) (hne : g ≠ p.block) :
    (w.setCell p v).ownsRow base e size (.slice (some ⟨g, 0, none⟩) n c) n xs :=
  h.kept (row := some p.block) ⟨rfl, rfl, rfl, by simp, fun k _ hk => heap_setCell_other w p k v (fun e => hk (by rw [e]))⟩ (Or.inr (fun e => hne (Option.some.inj e)))

theorem flat_own {w : World} {base G c j : Nat} {f : Nat → Int} {s t : Nat → Nat}
    (h : w.ownsRow base 5 1 (.slice (some ⟨G, 0, none⟩) (pre s t j + (t j - s j)) c) (pre s t j + (t j - s j)) (List.map (Value.int .u8) (flat f s t j) ++ List.map (fun x => Value.int .u8 (f (s j + x))) (List.range (t j - s j)))) :
    w.ownsRow base 5 1 (.slice (some ⟨G, 0, none⟩) (pre s t (j + 1)) c) (pre s t (j + 1)) ((flat f s t (j + 1)).map (Value.int .u8)) := by
  have e : (flat f s t (j + 1)).map (Value.int .u8) = List.map (Value.int .u8) (flat f s t j) ++ List.map (fun x => Value.int .u8 (f (s j + x))) (List.range (t j - s j)) := by
    show (flat f s t j ++ _).map _ = _
    rw [List.map_append, List.map_map]
    rfl
  rw [e]
  exact h

set_option maxRecDepth 100000 in
set_option maxHeartbeats 400000 in
theorem take_own (gp gs n L cap : Nat) (ab : Option Addr) (f : Nat → Int) (s t : Nat → Nat) (w : World) (hn : n ≤ 8192) (hL : L ≤ 131072) (hcap : L ≤ cap) (hab : ab = none → L = 0 ∧ cap = 0) (hst : ∀ i, i < n → s i ≤ t i ∧ t i ≤ L)
    (hsmall : pre s t n ≤ 65536) (hrow : Row w ab L f)
    (hgp : gp < w.heap.size) (hgs : gs < w.heap.size) (hp : w.cell? ⟨gp, 2, none⟩ = some (.slice (some ⟨gs, 0, none⟩) n n))
    (hc : ∀ i, i < n → w.cell? ⟨gs, i * 2, none⟩ = some (.int .i64 (s i)) ∧ w.cell? ⟨gs, i * 2 + 1, none⟩ = some (.int .i64 (t i))) :
    Calls Try.prog 27 #[.pointer (some ⟨gp, 0, none⟩), .slice ab L cap] w fun e w' => ∃ (gb : Nat) (adr : Nat → Option Addr), e = .returned (.tuple #[.slice (some ⟨gb + 1, 0, none⟩) n n, .bool false]) ∧ w.heap.size ≤ gb ∧
      w'.rowIs (gb + 1) 22 n (fun i => .slice (adr i) (t i - s i) (t i - s i)) ∧ Below w.heap.size w w' ∧ (∀ i, i < n → t i = s i ∨ adr i = some ⟨gb, pre s t i, none⟩) ∧
      w'.ownsRow w.heap.size 5 1 (.slice (some ⟨gb, 0, none⟩) (pre s t n) (pre s t n)) (pre s t n) ((flat f s t n).map (Value.int .u8)) := by
  have HC := hid hc
  have HST := hid hst
  have HP := hid hp
  have HRW := hid hrow
  have HAB := hid hab
  clear hc hst hrow hab
  go_enter Try.func27, Try.ntmps27
  go_wp2
  go_loopw [6, 20] (fun v i wr => ∃ k : Nat, i = .int .i64 k ∧ v = .int .i64 (pre s t k) ∧ k ≤ n ∧ Below w.heap.size w wr) (fun _ i _ => n - (intOf i).toNat)
  case atStart => exact ⟨0, rfl, rfl, Nat.zero_le _, Below.refl _ _⟩
  case round =>
    obtain ⟨k, rfl, rfl, hk, hbel⟩ := hrel
    have HB := hid hbel
    clear hbel
    have hpk := pre_mono (s := s) (t := t) n hk
    by_cases hlt : k < n
    · have c1 : wr.cell? ⟨gs, k * 2, none⟩ = some (.int .i64 (s k)) := by
        rw [HB.out.cell (p := ⟨gs, k * 2, none⟩) hgs]
        exact (HC.out k hlt).1
      have c2 : wr.cell? ⟨gs, k * 2 + 1, none⟩ = some (.int .i64 (t k)) := by
        rw [HB.out.cell (p := ⟨gs, k * 2 + 1, none⟩) hgs]
        exact (HC.out k hlt).2
      obtain ⟨b1, b2⟩ := HST.out k hlt
      clear hp
      go_wp2
      go_roundw
      case rel => exact ⟨k + 1, by go_num, val_int (by show _ = ((pre s t k + (t k - s k) : Nat) : Int); omega), by omega, HB.out.alloc HB.out.size _⟩
      case measure => simp [intOf]; omega
    · obtain rfl : k = n := by omega
      obtain ⟨wa, hwa⟩ : ∃ wa, wa = wr := ⟨wr, rfl⟩
      subst hwa
      have hmk := run_make_row' (P := Try.prog) 48 22 (.slice none 0 0) 24 Try.underlying48 Try.info22 rfl .i64 .i64 k (by omega) (by omega)
      have hmb := make_bytes (pre s t k) (by omega)
      have c0 : wa.cell? ⟨gp, 2, none⟩ = some (.slice (some ⟨gs, 0, none⟩) k k) := by
        rw [HB.out.cell (p := ⟨gp, 2, none⟩) hgp]
        exact HP.out
      have hgp2 : gp < wa.heap.size := Nat.lt_of_lt_of_le hgp HB.out.size
      have hd : decide ((65536 : Int) < (pre s t k : Int)) = false := by rw [decide_eq_false_iff_not]; omega
      have HG := hid HB.out.size
      clear hp hk hpk hlt
      go_wp2
      go_loopw [10, 49] (fun v i wx => ∃ j : Nat, i = .int .i64 j ∧ j ≤ k ∧ v = .slice (some ⟨wa.heap.size, 0, none⟩) (pre s t j) (pre s t k) ∧ Below w.heap.size w wx ∧ wa.heap.size + 1 < wx.heap.size ∧
          wx.ownsRow w.heap.size 5 1 (.slice (some ⟨wa.heap.size, 0, none⟩) (pre s t j) (pre s t k)) (pre s t j) ((flat f s t j).map (Value.int .u8)) ∧
          wx.rowIs (wa.heap.size + 1) 22 k (fun i => if i < j then .slice (if t i - s i = 0 then some ⟨wa.heap.size, 0, none⟩ else some ⟨wa.heap.size, pre s t i, none⟩) (t i - s i) (t i - s i) else .slice none 0 0)) (fun _ i _ => k - (intOf i).toNat)
      case atStart =>
        refine ⟨0, rfl, Nat.zero_le _, rfl, (HB.out.alloc HB.out.size _).alloc (HB.out.alloc HB.out.size _).size _, by simp, ?_, row_start (made2 _ _ _ _ _)⟩
        refine World.ownsRow.alloc (World.ownsRow_made _ _ _ HB.out.size (by unfold maxLen; omega) ?_) _
        rw [size_madeCells, Nat.mul_one]
      case round =>
        clear hmk hmb
        obtain ⟨j, rfl, hj, rfl, hbel, hsz, hown, hrow⟩ := hrel
        have HB2 := hid hbel
        have HR := hid hrow
        have HO := hid hown
        clear hbel hrow hown
        by_cases hlt : j < k
        · have c1 : wr.cell? ⟨gs, j * 2, none⟩ = some (.int .i64 (s j)) := by
            rw [HB2.out.cell (p := ⟨gs, j * 2, none⟩) hgs]
            exact (HC.out j hlt).1
          have c2 : wr.cell? ⟨gs, j * 2 + 1, none⟩ = some (.int .i64 (t j)) := by
            rw [HB2.out.cell (p := ⟨gs, j * 2 + 1, none⟩) hgs]
            exact (HC.out j hlt).2
          have c3 := HR.out.cell hlt
          have f3 := HR.out.frozen j
          have hpj : pre s t j + (t j - s j) ≤ pre s t k := pre_mono (s := s) (t := t) (i := j + 1) k (by omega)
          obtain ⟨b1, b2⟩ := HST.out j hlt
          obtain ⟨i0, hi, hz0, hz1, hz2⟩ := info_parts Try.info5
          have hlen1 : ((List.range (t j - s j)).map fun x => Value.int .u8 (f (s j + x))).length = (t j - s j) * 1 := by rw [List.length_map, List.length_range, Nat.mul_one]
          have HN := hid (none_cut (g := fun x => x.add (s j)) (s := s j) HAB.out b2)
          have HM := hid (news_cells (w := wr) (s := s j) (ao := if cap = s j then ab else ab.map (fun x => x.add (s j))) (HRW.out.below HB2.out (Nat.le_refl _)) b2 (fun h => if_neg (by omega)))
          go_wp2_with (at_builtin; go_must (refine wpList_append_fits_any _ rfl (.tmp 68) (.tmp 74) 22 rfl w.heap.size 5 i0 1 Try.underlying22 hi hz1 wa.heap.size (pre s t j) (pre s t k) _ rfl (HO.out.alloc _) (if cap = s j then ab else ab.map (fun x => x.add (s j))) (t j - s j) (cap - s j) ((List.range (t j - s j)).map fun x => Value.int .u8 (f (s j + x))) rfl hlen1 HN.out (fun ad had x u hu => cell_alloc (HM.out ad had x u hu)) (one_cells _ _) hpj ?_); intro w1 hown1 hgrow1; have HO1 := hid hown1; have HG1 := hid hgrow1; have HR1 := hid (grown_row HR.out hgrow1 (Nat.succ_ne_self _)); have c4 := HR1.out.cell hlt; have f4 := HR1.out.frozen j; clear hown1 hgrow1)
          go_roundw
          case rel =>
            have hb1 : Below w.heap.size w w1 := (HB2.out.alloc HB2.out.size _).grown HG1.out (HB2.out.alloc HB2.out.size _).size (fun x hx => by cases hx; exact HG.out)
            have hs1 : wr.heap.size + 1 ≤ w1.heap.size := by have := HG1.out.size; rw [size_alloc] at this; exact this
            exact ⟨j + 1, by go_num, by omega, rfl, hb1.setCell (Nat.le_succ_of_le HG.out) _, by rw [size_setCell]; omega, own_set_other (flat_own HO1.out) (Nat.succ_ne_self _).symm, row_step HR1.out rfl⟩
          case measure => simp [intOf]; omega
        · obtain rfl : j = k := by omega
          have HR2 := hid (row_end HR.out)
          go_wp2
          go_ret2
          exact ⟨_, _, rfl, HG.out, HR2.out, HB2.out, fun i hi => by
            by_cases e : t i - s i = 0
            · have := HST.out i hi
              exact Or.inl (by omega)
            · exact Or.inr (if_neg e), HO.out⟩
end Go.Proofs.Qxb6603239a
