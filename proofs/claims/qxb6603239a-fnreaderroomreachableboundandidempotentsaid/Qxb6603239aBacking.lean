/- zzBacking (9), ZZNewReader (10), ZZReaderState (12). -/
import Derived.Test.Qxb6603239aSame
namespace Go.Proofs.Qxb6603239a
open Go.RowKit

/-- A BUFFER of the reader's: nil; or at the head of a block of the call's own, every cell of it a byte, the first len the bytes f -/
def Bufi (w : World) (base : Nat) (a : Option Addr) (len cap : Nat) (f : Nat → Int) : Prop :=
  (a = none ∧ len = 0 ∧ cap = 0) ∨ ∃ (g : Nat) (G : Nat → Int), a = some ⟨g, 0, none⟩ ∧ base ≤ g ∧ len ≤ cap ∧ w.rowIs g 5 cap (fun i => .int .u8 (G i)) ∧ ∀ i, i < len → G i = f i

theorem int_set {w : World} {g n : Nat} {G : Nat → Int} (h : w.rowIs g 5 n (fun i => .int .u8 (G i))) (k : Nat) (z : Int) :
    (w.setCell ⟨g, k, none⟩ (.int .u8 z)).rowIs g 5 n (fun i => .int .u8 (if i = k then z else G i)) := by
  refine (h.set k (.int .u8 z)).congr fun i _ => ?_
  show (if i = k then Value.int .u8 z else .int .u8 (G i)) = .int .u8 (if i = k then z else G i)
  by_cases e : i = k
  · rw [if_pos e, if_pos e]
  · rw [if_neg e, if_neg e]

set_option maxHeartbeats 400000 in
theorem backing_nil (cap0 cap1 : Nat) (a1 : Option Addr) (w : World) :
    Calls Try.prog 9 #[.slice none 0 cap0, .slice a1 0 cap1] w fun e w' => e = .returned (.tuple #[.slice none 0 0, .slice none 0 0]) ∧ w' = w := by
  have hnil := fun (w : World) => Lib.run_eql_slice_nil (P := Try.prog) w 22 5 none 0 cap0 0 0 Try.underlying22
  go_enter Try.func9, Try.ntmps9
  go_wp2
  go_ret2
  exact ⟨rfl, rfl⟩

set_option maxRecDepth 100000 in
set_option maxHeartbeats 400000 in
theorem backing_made (a0 a1 : Option Addr) (D cap0 H cap1 : Nat) (f h : Nat → Int) (w : World) (hD : D ≤ 524288) (hH : H ≤ 524288) (hc : a0.isNone = false ∨ 0 < H) (h0 : Row w a0 D f) (h1 : Row w a1 H h) :
    Calls Try.prog 9 #[.slice a0 D cap0, .slice a1 H cap1] w fun e w' => ∃ v0, e = .returned (.tuple #[v0, .slice (some ⟨w.heap.size, 0, none⟩) D (D + H)]) ∧
      (∃ G : Nat → Int, w'.rowIs w.heap.size 5 (D + H) (fun i => .int .u8 (G i)) ∧ ∀ i, i < D → G i = f i) ∧ Below w.heap.size w w' := by
  have hmk : ∀ w : World, (Instr.makeSlice 22 (.int .i64 ((D : Int) + (H : Int))) (.int .i64 ((D : Int) + (H : Int)))).run Try.prog w = .ok (.slice (some ⟨w.heap.size, 0, none⟩) (D + H) (D + H)) (w.alloc (.cells (madeCells #[.int .u8 0] (D + H)) 5)) := by
    have := make_full (D + H) (by omega)
    rw [show ((D + H : Nat) : Int) = (D : Int) + (H : Int) from by omega] at this
    exact this
  have hnil := fun (w : World) => Lib.run_eql_slice_nil (P := Try.prog) w 22 5 a0 D cap0 0 0 Try.underlying22
  have H0 := hid h0
  have H1 := hid h1
  have HCC := hid hc
  clear h0 h1 hc
  have hcond : (a0.isNone && ((H : Int) == 0)) = false := by
    rcases HCC.out with e | e
    · rw [e]; rfl
    · have : ((H : Int) == 0) = false := by rw [beq_eq_false_iff_ne]; omega
      rw [this]
      simp
  cases hn0 : a0.isNone
  · clear hcond
    go_enter Try.func9, Try.ntmps9
    go_wp2
    go_loopw [7] (fun v wr => ∃ (k : Nat) (G : Nat → Int), v = .int .i64 k ∧ k ≤ D ∧ wr.rowIs w.heap.size 5 (D + H) (fun i => .int .u8 (G i)) ∧ (∀ i, i < k → G i = f i) ∧ Below w.heap.size w wr) (fun v _ => D - (intOf v).toNat)
    case atStart => exact ⟨0, fun _ => 0, rfl, Nat.zero_le _, World.rowIs_made _ _ _ _, fun i hi => absurd hi (Nat.not_lt_zero _), (Below.refl _ _).alloc (Nat.le_refl _) _⟩
    case round =>
      clear hmk hnil
      obtain ⟨k, G, rfl, hk, hrow, hG, hbel⟩ := hrel
      have HR := hid hrow
      have HG := hid hG
      have HB := hid hbel
      clear hrow hbel hG
      by_cases hlt : k < D
      · have h0 := H0.out
        rcases h0 with h0 | ⟨b, off, rfl, hb, hc⟩
        · omega
        · have c1 : wr.cell? ⟨b, off + k, none⟩ = some (.int .u8 (f k)) := by
            rw [HB.out.cell (p := ⟨b, off + k, none⟩) hb]
            exact hc k hlt
          have c2 := HR.out.cell (i := k) (by omega)
          have f2 := HR.out.frozen k
          clear hc
          go_wp2
          go_roundw
          case rel => exact ⟨k + 1, _, by go_num, by omega, int_set HR.out k (f k), fun i hi => by
            by_cases e : i = k
            · rw [if_pos e, e]
            · rw [if_neg e]; exact HG.out i (by omega), HB.out.setCell (Nat.le_refl _) _⟩
          case measure => simp [intOf]; omega
      · obtain rfl : D = k := by omega
        clear hlt hk
        go_wp2
        go_loopw [8] (fun v wr => ∃ (k : Nat) (G : Nat → Int), v = .int .i64 k ∧ k ≤ H ∧ wr.rowIs w.heap.size 5 (D + H) (fun i => .int .u8 (G i)) ∧ (∀ i, i < D → G i = f i) ∧ Below w.heap.size w wr) (fun v _ => H - (intOf v).toNat)
        case atStart => exact ⟨0, G, rfl, Nat.zero_le _, HR.out, HG.out, HB.out⟩
        case round =>
          clear HR HG HB
          clear G
          obtain ⟨k, G, rfl, hk, hrow, hG, hbel⟩ := hrel
          have HR := hid hrow
          have HG := hid hG
          have HB := hid hbel
          clear hrow hbel hG
          by_cases hlt : k < H
          · have h1 := H1.out
            rcases h1 with h1 | ⟨b, off, rfl, hb, hc⟩
            · omega
            · have c1 : wr.cell? ⟨b, off + k, none⟩ = some (.int .u8 (h k)) := by
                rw [HB.out.cell (p := ⟨b, off + k, none⟩) hb]
                exact hc k hlt
              have c2 := HR.out.cell (i := D + k) (by omega)
              have f2 := HR.out.frozen (D + k)
              clear hc
              go_wp2
              go_roundw
              case rel => exact ⟨k + 1, _, by go_num, by omega, int_set HR.out (D + k) (h k), fun i hi => by
                rw [if_neg (by omega)]; exact HG.out i (by omega), HB.out.setCell (Nat.le_refl _) _⟩
              case measure => simp [intOf]; omega
          · go_wp2
            go_quiet (fail)
            go_wp2
            go_ret2
            exact ⟨_, rfl, ⟨G, row_drewN HR.out _, HG.out⟩, below_drewN HB.out _⟩
  · have e0 : ((H : Int) == 0) = false := by rw [hn0] at hcond; simpa using hcond
    clear hcond
    go_enter Try.func9, Try.ntmps9
    go_wp2
    go_loopw [7] (fun v wr => ∃ (k : Nat) (G : Nat → Int), v = .int .i64 k ∧ k ≤ D ∧ wr.rowIs w.heap.size 5 (D + H) (fun i => .int .u8 (G i)) ∧ (∀ i, i < k → G i = f i) ∧ Below w.heap.size w wr) (fun v _ => D - (intOf v).toNat)
    case atStart => exact ⟨0, fun _ => 0, rfl, Nat.zero_le _, World.rowIs_made _ _ _ _, fun i hi => absurd hi (Nat.not_lt_zero _), (Below.refl _ _).alloc (Nat.le_refl _) _⟩
    case round =>
      clear hmk hnil
      obtain ⟨k, G, rfl, hk, hrow, hG, hbel⟩ := hrel
      have HR := hid hrow
      have HG := hid hG
      have HB := hid hbel
      clear hrow hbel hG
      by_cases hlt : k < D
      · have h0 := H0.out
        rcases h0 with h0 | ⟨b, off, rfl, hb, hc⟩
        · omega
        · have c1 : wr.cell? ⟨b, off + k, none⟩ = some (.int .u8 (f k)) := by
            rw [HB.out.cell (p := ⟨b, off + k, none⟩) hb]
            exact hc k hlt
          have c2 := HR.out.cell (i := k) (by omega)
          have f2 := HR.out.frozen k
          clear hc
          go_wp2
          go_roundw
          case rel => exact ⟨k + 1, _, by go_num, by omega, int_set HR.out k (f k), fun i hi => by
            by_cases e : i = k
            · rw [if_pos e, e]
            · rw [if_neg e]; exact HG.out i (by omega), HB.out.setCell (Nat.le_refl _) _⟩
          case measure => simp [intOf]; omega
      · obtain rfl : D = k := by omega
        clear hlt hk
        go_wp2
        go_loopw [8] (fun v wr => ∃ (k : Nat) (G : Nat → Int), v = .int .i64 k ∧ k ≤ H ∧ wr.rowIs w.heap.size 5 (D + H) (fun i => .int .u8 (G i)) ∧ (∀ i, i < D → G i = f i) ∧ Below w.heap.size w wr) (fun v _ => H - (intOf v).toNat)
        case atStart => exact ⟨0, G, rfl, Nat.zero_le _, HR.out, HG.out, HB.out⟩
        case round =>
          clear HR HG HB
          clear G
          obtain ⟨k, G, rfl, hk, hrow, hG, hbel⟩ := hrel
          have HR := hid hrow
          have HG := hid hG
          have HB := hid hbel
          clear hrow hbel hG
          by_cases hlt : k < H
          · have h1 := H1.out
            rcases h1 with h1 | ⟨b, off, rfl, hb, hc⟩
            · omega
            · have c1 : wr.cell? ⟨b, off + k, none⟩ = some (.int .u8 (h k)) := by
                rw [HB.out.cell (p := ⟨b, off + k, none⟩) hb]
                exact hc k hlt
              have c2 := HR.out.cell (i := D + k) (by omega)
              have f2 := HR.out.frozen (D + k)
              clear hc
              go_wp2
              go_roundw
              case rel => exact ⟨k + 1, _, by go_num, by omega, int_set HR.out (D + k) (h k), fun i hi => by
                rw [if_neg (by omega)]; exact HG.out i (by omega), HB.out.setCell (Nat.le_refl _) _⟩
              case measure => simp [intOf]; omega
          · go_wp2
            go_quiet (fail)
            go_wp2
            go_ret2
            exact ⟨_, rfl, ⟨G, row_drewN HR.out _, HG.out⟩, below_drewN HB.out _⟩

/-- zzBacking: the second result is a fresh buffer that holds data, with len(behind) cells behind it; nil stays nil -/
theorem backing_any (a0 a1 : Option Addr) (D cap0 H cap1 : Nat) (f h : Nat → Int) (w : World) (hD : D ≤ 524288) (hH : H ≤ 524288) (h0 : Row w a0 D f) (h1 : Row w a1 H h) (hnil : a0 = none → D = 0 ∧ cap0 = 0) :
    Calls Try.prog 9 #[.slice a0 D cap0, .slice a1 H cap1] w fun e w' => ∃ v0 a', e = .returned (.tuple #[v0, .slice a' D (D + H)]) ∧ Bufi w' w.heap.size a' D (D + H) f ∧ Below w.heap.size w w' := by
  by_cases hc : a0.isNone = false ∨ 0 < H
  · refine (backing_made a0 a1 D cap0 H cap1 f h w hD hH hc h0 h1).mono ?_
    rintro e w' ⟨v0, rfl, ⟨G, hrow, hG⟩, hb⟩
    exact ⟨v0, _, rfl, Or.inr ⟨_, G, rfl, Nat.le_refl _, Nat.le_add_right _ _, hrow, hG⟩, hb⟩
  · cases a0 with
    | some x => exact absurd (Or.inl rfl) hc
    | none =>
      obtain ⟨rfl, rfl⟩ := hnil rfl
      obtain rfl : H = 0 := by
        rcases Nat.eq_zero_or_pos H with e | e
        · exact e
        · exact absurd (Or.inr e) hc
      refine (backing_nil 0 cap1 a1 w).mono ?_
      rintro e w' ⟨rfl, rfl⟩
      exact ⟨_, none, rfl, Or.inl ⟨rfl, rfl, rfl⟩, Below.refl _ _⟩

/-- THE READER at block g: its buffer's header hd, its offset o -/
def Reader (w : World) (g : Nat) (hd : Value) (o : Nat) : Prop := ∃ F : Nat → Value, w.rowIs g 57 9 (fun i => if i = 0 then hd else if i = 1 then .int .i64 (o : Int) else F i)

theorem Reader.c0 {w : World} {g o : Nat} {hd : Value} (h : Reader w g hd o) : w.cell? ⟨g, 0, none⟩ = some hd := by
  obtain ⟨F, h⟩ := h
  exact h.cell (by omega)
theorem Reader.c1 {w : World} {g o : Nat} {hd : Value} (h : Reader w g hd o) : w.cell? ⟨g, 1, none⟩ = some (.int .i64 (o : Int)) := by
  obtain ⟨F, h⟩ := h
  exact h.cell (by omega)
theorem Reader.free {w : World} {g o : Nat} {hd : Value} (h : Reader w g hd o) (i : Nat) : w.frozen? ⟨g, i, none⟩ = false := by
  obtain ⟨F, h⟩ := h
  exact h.frozen i
theorem Reader.lt {w : World} {g o : Nat} {hd : Value} (h : Reader w g hd o) : g < w.heap.size := by
  obtain ⟨F, h⟩ := h
  exact h.lt
theorem Reader.drewN {w : World} {g o : Nat} {hd : Value} (h : Reader w g hd o) (m : Nat) : Reader (w.drewN m) g hd o := by
  obtain ⟨F, h⟩ := h
  exact ⟨F, row_drewN h m⟩
theorem Reader.drew {w : World} {g o : Nat} {hd : Value} (h : Reader w g hd o) : Reader w.drew g hd o := h
theorem Reader.of_block {w w' : World} {g o : Nat} {hd : Value} (h : Reader w g hd o) (e : w'.heap[g]? = w.heap[g]?) : Reader w' g hd o := by
  obtain ⟨F, h⟩ := h
  exact ⟨F, h.of_block e⟩
theorem Reader.reset {w : World} {g o : Nat} {hd : Value} (h : Reader w g hd o) (hd' : Value) : Reader ((w.setCell ⟨g, 0, none⟩ hd').setCell ⟨g, 1, none⟩ (.int .i64 0)) g hd' 0 := by
  obtain ⟨F, h⟩ := h
  refine ⟨F, ((h.set 0 hd').set 1 (.int .i64 0)).congr fun i hi => ?_⟩
  show (if i = 1 then Value.int .i64 0 else if i = 0 then hd' else if i = 0 then hd else if i = 1 then .int .i64 (o : Int) else F i) = if i = 0 then hd' else if i = 1 then .int .i64 ((0 : Nat) : Int) else F i
  by_cases e : i = 0
  · subst e; rw [if_neg (by omega), if_pos rfl, if_pos rfl]
  · by_cases e1 : i = 1
    · subst e1; rw [if_pos rfl, if_neg (by omega), if_pos rfl]; rfl
    · rw [if_neg e1, if_neg e, if_neg e, if_neg e1, if_neg e, if_neg e1]

set_option maxHeartbeats 400000 in
theorem readerState_any (g : Nat) (a : Option Addr) (len cap : Nat) (o : Int) (w : World) (h0 : w.cell? ⟨g, 0, none⟩ = some (.slice a len cap)) (h1 : w.cell? ⟨g, 1, none⟩ = some (.int .i64 o)) :
    Calls Try.prog 12 #[.pointer (some ⟨g, 0, none⟩)] w fun e w' => e = .returned (.tuple #[.slice a len cap, .int .i64 o]) ∧ ∃ n, w' = w.drewN n := by
  go_enter Try.func12, Try.ntmps12
  go_wp2
  go_quiet (fail)
  go_wp2
  go_ret2
  exact ⟨rfl, nq, rfl⟩

theorem reader_new (w : World) (hd : Value) (o : Nat) (x2 x3 x4 x5 x6 x7 x8 : Value) : Reader (w.alloc (.cells #[hd, .int .i64 (o : Int), x2, x3, x4, x5, x6, x7, x8] 57)) w.heap.size hd o := by
  refine ⟨fun i => (#[hd, .int .i64 (o : Int), x2, x3, x4, x5, x6, x7, x8][i]?).getD undef, World.rowIs_alloc w #[hd, .int .i64 (o : Int), x2, x3, x4, x5, x6, x7, x8] 57 _ (fun i hi => ?_)⟩
  show _ = some (if i = 0 then hd else if i = 1 then .int .i64 (o : Int) else (#[hd, .int .i64 (o : Int), x2, x3, x4, x5, x6, x7, x8][i]?).getD undef)
  by_cases e : i = 0
  · subst e; rfl
  · by_cases e1 : i = 1
    · subst e1; rfl
    · rw [if_neg e, if_neg e1, Array.getElem?_eq_getElem hi]
      rfl

set_option maxHeartbeats 400000 in
theorem newReader_any (a : Option Addr) (len cap : Nat) (o : Nat) (w : World) :
    Calls Try.prog 10 #[.slice a len cap, .int .i64 (o : Int)] w fun e w' => e = .returned (.pointer (some ⟨w.heap.size, 0, none⟩)) ∧ Reader w' w.heap.size (.slice a len cap) o ∧ ∃ c, w' = w.alloc (.cells c 57) := by
  go_enter Try.func10, Try.ntmps10
  go_wp2
  go_ret
  exact ⟨rfl, reader_new w (.slice a len cap) o _ _ _ _ _ _ _, _, rfl⟩
end Go.Proofs.Qxb6603239a
