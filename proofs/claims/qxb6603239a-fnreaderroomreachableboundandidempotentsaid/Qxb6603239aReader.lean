/- FnReaderRoomReachableBoundAndIdempotent (3): the walk. -/
import Derived.Test.Qxb6603239aGrow
import Derived.Test.Qxb6603239aClone
namespace Go.Proofs.Qxb6603239a.fnReaderRoomReachableBoundAndIdempotent
open Go.RowKit

/-- what Room leaves -/
structure Left1 (w' : World) (base gr D cap o : Nat) (f : Nat → Int) (g len c o' : Nat) (G : Nat → Int) : Prop where
  reader : Reader w' gr (.slice (some ⟨g, 0, none⟩) len c) o'
  row : w'.rowIs g 5 c (fun i => .int .u8 (G i))
  bytes : ∀ i, i < len - o' → G (o' + i) = f (o + i)
  gb : base ≤ g
  ne : gr ≠ g
  off : o' ≤ len
  left : len - o' = D - o
  room : len + 4096 ≤ c
  least : 16384 ≤ c
  most : c ≤ 2 * cap ∨ c = 16384
  bound : c ≤ 2097152
  lenb : len ≤ D

theorem room_first (gr D cap o base : Nat) (a : Option Addr) (f : Nat → Int) (w : World) (hcap : cap ≤ 1048576) (ho : o ≤ D) (hb : cap = 0 ∨ 16384 ≤ cap) (hbuf : Bufi w base a D cap f) (hgl : ∀ g, a = some ⟨g, 0, none⟩ → g < gr) (hbg : base ≤ gr)
    (hw : Reader w gr (.slice a D cap) o) :
    Calls Try.prog 11 #[.pointer (some ⟨gr, 0, none⟩)] w fun e w' => ∃ (g len c o' : Nat) (G : Nat → Int), e = .returned (.slice (some ⟨g, len, none⟩) (c - len) (c - len)) ∧ Below base w w' ∧ Left1 w' base gr D cap o f g len c o' G := by
  rcases hb with h0 | h0
  · subst h0
    have hD : D = 0 := by
      rcases hbuf with ⟨_, h, _⟩ | ⟨g, G, _, _, h, _⟩
      · exact h
      · omega
    subst hD
    obtain rfl : o = 0 := by omega
    refine (grow_zero gr a f w hw).mono ?_
    rintro e w' ⟨gn, G, h1, rfl, h2, h3, h4, h5⟩
    have := hw.lt
    exact ⟨gn, 0, 16384, 0, G, rfl, h3.mono hbg, h2, h4, fun i hi => absurd hi (Nat.not_lt_zero _), by omega, by omega, by omega, rfl, by omega, by omega, Or.inr rfl, by omega, by omega⟩
  · rcases hbuf with ⟨_, _, h⟩ | ⟨g, G, rfl, hg1, hg2, hrow, hG⟩
    · omega
    · have hlt := hgl g rfl
      have hrw : Row w (some ⟨g, 0, none⟩) D f := Or.inr ⟨g, 0, rfl, hrow.lt, fun i hi => by rw [Nat.zero_add, hrow.cell (i := i) (by omega), hG i hi]⟩
      by_cases hr : D + 4096 ≤ cap
      · refine (room_same gr g D cap o w (by omega) hr hw).mono ?_
        rintro e w' ⟨rfl, m, rfl⟩
        exact ⟨g, D, cap, o, G, rfl, below_drewN (Below.refl _ _) m, hw.drewN m, row_drewN hrow m, fun i hi => hG (o + i) (by omega), hg1, by omega, ho, rfl, hr, h0, Or.inl (by omega), by omega, by omega⟩
      · by_cases hm : 0 < o ∧ D - o ≤ cap / 2
        · by_cases hoc : cap = o
          · obtain rfl : D = cap := by omega
            subst hoc
            refine (room_move_eq gr g D G w hcap h0 (by omega) hw hrow).mono ?_
            rintro e w' ⟨rfl, h2, h3, h4⟩
            exact ⟨g, 0, D, 0, G, rfl, h3.below hbg hg1, h2, h4, fun i hi => absurd hi (by omega), hg1, by omega, by omega, by omega, by omega, h0, Or.inl (by omega), by omega, by omega⟩
          · refine (room_move_lt gr g D cap o G w hcap hg2 (by omega) hm.1 ho hoc hm.2 h0 (by omega) hw hrow).mono ?_
            rintro e w' ⟨rfl, h2, h3, h4⟩
            exact ⟨g, D - o, cap, 0, _, rfl, h3.below hbg hg1, h2, h4, fun i hi => by
              show (if 0 + i < D - o then G (o + (0 + i)) else G (0 + i)) = f (o + i)
              rw [Nat.zero_add, if_pos (by omega)]
              exact hG (o + i) (by omega), hg1, by omega, by omega, by omega, by omega, h0, Or.inl (by omega), by omega, by omega⟩
        · by_cases hz : o = 0
          · subst hz
            refine (grow_start gr g D cap f w hcap hg2 (by omega) h0 hw hrw).mono ?_
            rintro e w' ⟨gn, G', h1, rfl, h2, h3, h4, h5⟩
            have := hw.lt
            exact ⟨gn, D, 2 * cap, 0, G', rfl, h3.mono hbg, h2, h4, fun i hi => by
              have := h5 i (by omega)
              rw [Nat.zero_add] at this ⊢
              exact this, by omega, by omega, by omega, rfl, by omega, by omega, Or.inl (by omega), by omega, by omega⟩
          · refine (grow_pos gr g D cap o f w hcap hg2 (by omega) (by omega) (by omega) h0 hw hrw).mono ?_
            rintro e w' ⟨gn, G', h1, rfl, h2, h3, h4, h5⟩
            have := hw.lt
            exact ⟨gn, D - o, 2 * cap, 0, G', rfl, h3.mono hbg, h2, h4, fun i hi => by rw [Nat.zero_add, h5 i (by omega)], by omega, by omega, by omega, by omega, by omega, by omega, Or.inl (by omega), by omega, by omega⟩

set_option maxHeartbeats 400000 in
theorem bytes_any (a b : Option Addr) (l c l2 c2 : Nat) (x : Int) (w : World) :
    Calls Try.prog 8 #[.slice a l c, .slice b l2 c2, .int .i64 x] w fun e w' => ∃ v : Bool, e = .returned (.bool v) ∧ w' = w := by
  go_enter Try.func8, Try.ntmps8
  go_wp2
  all_goals
    go_ret
    exact ⟨_, rfl, rfl⟩

theorem _root_.Go.Proofs.Qxb6603239a.Bufi.alloc {w : World} {base len cap : Nat} {a : Option Addr} {f : Nat → Int} (h : Bufi w base a len cap f) (o : Obj) : Bufi (w.alloc o) base a len cap f := by
  rcases h with h | ⟨g, F, h1, h2, h3, h4, h5⟩
  · exact Or.inl h
  · exact Or.inr ⟨g, F, h1, h2, h3, h4.alloc o, h5⟩

theorem _root_.Go.Proofs.Qxb6603239a.Bufi.lt {w : World} {base len cap : Nat} {a : Option Addr} {f : Nat → Int} (h : Bufi w base a len cap f) : ∀ g, a = some ⟨g, 0, none⟩ → g < w.heap.size := by
  intro g hg
  rcases h with ⟨h, _⟩ | ⟨g', F, h1, h2, h3, h4, h5⟩
  · rw [h] at hg; cases hg
  · rw [h1] at hg
    cases hg
    exact h4.lt

/-- 'x[k:]' with its address under a name -/
theorem cut_addr (a : Option Addr) (L cap k : Nat) (hk : k ≤ L) : ∃ ao : Option Addr, (¬ cap = k → ao = a.map (·.add k)) ∧
    ∀ w : World, (Instr.slice 22 (.slice a L cap) (some (.int .i64 (k : Int))) none none).run Try.prog w = .ok (.slice ao (L - k) (cap - k)) w := by
  refine ⟨if cap = k then a else a.map (·.add k), fun h => if_neg h, fun w => ?_⟩
  have := run_slice_l (P := Try.prog) w 22 a L cap (by kernel_rfl) .i64 (k : Int) (by omega) (by omega)
  have hs : (sizeOf (Try.prog.elem 22)).run Try.prog w = .ok 1 w := by kernel_rfl
  rw [this, hs]
  simp [sliced, Result.andThen]

theorem row_drewN' {w : World} {a : Option Addr} {L : Nat} {f : Nat → Int} (h : Row w a L f) (n : Nat) : Row (w.drewN n) a L f :=
  h.below (B := w.heap.size) (below_drewN (Below.refl _ _) n) (Nat.le_refl _)

set_option maxRecDepth 100000 in
set_option maxHeartbeats 2000000 in
theorem walk_in (D cap0 H cap1 O : Nat) (a0 a1 : Option Addr) (f h : Nat → Int) (w : World) (hab : a0 = none → D = 0 ∧ cap0 = 0) (hr0 : Row w a0 D f) (hr1 : Row w a1 H h) (hcap0 : D ≤ cap0) (hD : D ≤ 524288) (hH : H ≤ 524288) (hO : O ≤ D) (hok : D + H = 0 ∨ 16384 ≤ D + H) :
    Calls Try.prog 3 #[.slice a0 D cap0, .slice a1 H cap1, .int .i64 (O : Int)] w fun e w' => e = .returned (.bool true) ∧ Below w.heap.size w w' := by
  have HAB := hid hab
  have HR0 := hid hr0
  have HR1 := hid hr1
  have HOK := hid hok
  rcases hok with e | e
  · have k1 : ((D : Int) + (H : Int) != 0) = false := by simp; omega
    have hle : (D : Int) + (H : Int) ≤ 0 := by omega
    have hD' : (D : Int) ≤ 524288 := by omega
    have hH' : (H : Int) ≤ 524288 := by omega
    clear e hab hr0 hr1 hD hH
    go_enter Try.func3, Try.ntmps3
    go_wp2_with fail
    refine (bytes_any a0 a1 D cap0 H cap1 O _).mono ?_
    rintro e w' ⟨v, rfl, hw⟩
    subst hw
    cases v
    · go_wp2
      go_ret
      exact ⟨rfl, Below.refl _ _⟩
    · go_wp2_with fail
      refine (backing_any a0 a1 D cap0 H cap1 f h _ (by omega) (by omega) HR0.out HR1.out HAB.out).mono ?_
      rintro e w1 ⟨v0, a', rfl, hbuf, hb1⟩
      clear k1
      have B1 := hid hb1
      have HBF := hid hbuf
      clear hb1 hbuf
      go_wp2_with fail
      refine (newReader_any a' D (D + H) O _).mono ?_
      rintro e w2 ⟨rfl, hrd, cc, hw2⟩
      have B2 := hid (show Below w'.heap.size w' w2 from by rw [hw2]; exact B1.out.alloc B1.out.size _)
      have HRD := hid hrd
      have HBF2 := hid (show Bufi w2 w'.heap.size a' D (D + H) f from by rw [hw2]; exact HBF.out.alloc _)
      have HLT := hid HBF.out.lt
      clear hw2 hrd HBF
      go_wp2_with fail
      refine (room_first w1.heap.size D (D + H) O w'.heap.size a' f _ (by omega) hO HOK.out HBF2.out HLT.out B1.out.size HRD.out).mono ?_
      rintro e w3 ⟨g, len, c, o', G, rfl, hb3, hL⟩
      have B3 := hid (B2.out.trans hb3)
      have HL := hid hL
      have h_off := hL.off
      have h_left := hL.left
      have h_room : (len : Int) + 4096 ≤ (c : Int) := by have := hL.room; omega
      have h_least : (16384 : Int) ≤ (c : Int) := by have := hL.least; omega
      have h_bound : (c : Int) ≤ 2097152 := by have := hL.bound; omega
      have h_lenb := hL.lenb
      have h_gb := hid hL.gb
      have h_ne := hid hL.ne
      have h_most := hid hL.most
      clear hL hb3 HBF2 HLT HRD B2
      have hm : (c : Int) ≤ 16384 := by have := h_most.out; omega
      clear h_most
      go_wp2_with fail
      refine (readerState_any w1.heap.size _ _ _ _ _ HL.out.reader.c0 HL.out.reader.c1).mono ?_
      rintro e w4 ⟨rfl, nd, hw4⟩
      have B4 := hid (show Below w'.heap.size w' w4 from by rw [hw4]; exact below_drewN B3.out nd)
      have HRD4 := hid (show Reader w4 w1.heap.size (.slice (some ⟨g, 0, none⟩) len c) o' from by rw [hw4]; exact HL.out.reader.drewN nd)
      have HRW4 := hid (show w4.rowIs g 5 c (fun i => .int .u8 (G i)) from by rw [hw4]; exact row_drewN HL.out.row nd)
      clear hw4
      have HD4 := hid (HR0.out.below B4.out (Nat.le_refl _))
      have HN4 := hid (show Row w4 (some ⟨g, 0, none⟩) len G from Or.inr ⟨g, 0, rfl, HRW4.out.lt, fun i hi => by rw [Nat.zero_add]; exact HRW4.out.cell (by omega)⟩)
      have hco : ¬ c = o' := by omega
      obtain ⟨ao, hao, hsl⟩ := cut_addr a0 D cap0 O hO
      have HX2 := hid (HD4.out.cut (ao := ao) hcap0 hao)
      clear hao
      have HX1 := hid (show Row w4 (some ⟨g, o', none⟩) (D - O) (fun i => f (O + i)) from by
        have := (HN4.out.cut (k := o') (cap := c) (ao := some ⟨g, o', none⟩) (by omega) (fun _ => by rw [Option.map_some, Addr.add_lit, Nat.zero_add])).congr (g := fun i => f (O + i)) (fun i hi => HL.out.bytes i hi)
        rw [h_left] at this
        exact this)
      go_wp2_with fail
      go_quiet (first | (go_at_call 13; exact Calls.quiet_of (same_any _ _ _ _ _ (fun i => f (O + i)) _ (by omega) (row_drewN' HX1.out _) (row_drewN' HX2.out _))))
      obtain ⟨w5, hw5⟩ : ∃ w5, w5 = w4.drewN nq := ⟨_, rfl⟩
      rw [← hw5]
      clear hsl
      have B5 := hid (show Below w'.heap.size w' w5 from by rw [hw5]; exact below_drewN B4.out nq)
      have HRD5 := hid (show Reader w5 w1.heap.size (.slice (some ⟨g, 0, none⟩) len c) o' from by rw [hw5]; exact HRD4.out.drewN nq)
      have HRW5 := hid (show w5.rowIs g 5 c (fun i => .int .u8 (G i)) from by rw [hw5]; exact row_drewN HRW4.out nq)
      have HN5 := hid (show Row w5 (some ⟨g, 0, none⟩) len G from by rw [hw5]; exact row_drewN' HN4.out nq)
      clear hw5
      clear HX1 HD4 HN4 HRW4 HRD4 B4
      go_wp2_with fail
      refine (clone_any (some ⟨g, 0, none⟩) len c G _ (by omega) (fun h => by cases h) HN5.out).mono ?_
      rintro e w6 ⟨a6, rfl, hcl6, hb6⟩
      have B6 := hid (B5.out.trans (hb6.mono B5.out.size))
      have HRD6 := hid (HRD5.out.of_block (hb6.block _ HRD5.out.lt))
      have HRW6 := hid (below_row hb6 HRW5.out HRW5.out.lt)
      have HS6 := hid (show Row w6 a6 len G from by
        rcases hcl6 with h' | ⟨h1, h2⟩
        · exact Or.inl h'
        · exact Or.inr ⟨_, 0, h1, h2.lt, fun i hi => by rw [Nat.zero_add]; exact h2.cell hi⟩)
      clear hcl6 hb6 HRD5 HRW5 HN5 B5
      go_wp2_with fail
      refine (room_same w1.heap.size g len c o' _ (by omega) (by omega) HRD6.out).mono ?_
      rintro e w7 ⟨rfl, m7, hw7⟩
      have B7 := hid (show Below w'.heap.size w' w7 from by rw [hw7]; exact below_drewN B6.out m7)
      have HRD7 := hid (show Reader w7 w1.heap.size (.slice (some ⟨g, 0, none⟩) len c) o' from by rw [hw7]; exact HRD6.out.drewN m7)
      have HRW7 := hid (show w7.rowIs g 5 c (fun i => .int .u8 (G i)) from by rw [hw7]; exact row_drewN HRW6.out m7)
      have HS7 := hid (show Row w7 a6 len G from by rw [hw7]; exact row_drewN' HS6.out m7)
      clear hw7 HRD6 HRW6 HS6 B6
      go_wp2_with fail
      refine (readerState_any w1.heap.size _ _ _ _ _ HRD7.out.c0 HRD7.out.c1).mono ?_
      rintro e w8 ⟨rfl, m8, hw8⟩
      have B8 := hid (show Below w'.heap.size w' w8 from by rw [hw8]; exact below_drewN B7.out m8)
      have HRW8 := hid (show w8.rowIs g 5 c (fun i => .int .u8 (G i)) from by rw [hw8]; exact row_drewN HRW7.out m8)
      have HS8 := hid (show Row w8 a6 len G from by rw [hw8]; exact row_drewN' HS7.out m8)
      have HN8 := hid (show Row w8 (some ⟨g, 0, none⟩) len G from Or.inr ⟨g, 0, rfl, HRW8.out.lt, fun i hi => by rw [Nat.zero_add]; exact HRW8.out.cell (by omega)⟩)
      clear hw8 HRD7 HRW7 HS7 B7
      go_wp2_with fail
      refine (same_any _ _ _ _ _ G _ (by omega) HN8.out HS8.out).mono ?_
      rintro e w9 ⟨rfl, m9, hw9⟩
      have B9 := hid (show Below w'.heap.size w' w9 from by rw [hw9]; exact below_drewN B8.out m9)
      have HRW9 := hid (show w9.rowIs g 5 c (fun i => .int .u8 (G i)) from by rw [hw9]; exact row_drewN HRW8.out m9)
      clear hw9 HRW8 HS8 HN8 B8
      have c9 := HRW9.out.cell (i := len) (by omega)
      have f9 := HRW9.out.frozen len
      have hpos : (0 : Int) < ((c - len : Nat) : Int) := by omega
      go_wp2
      go_quiet (fail)
      go_wp2
      go_ret
      exact ⟨rfl, below_drewN (B9.out.setCell h_gb.out _) nq⟩
  · have k1 : ((D : Int) + (H : Int) != 0) = true := by rw [bne_iff_ne]; omega
    have hle : (16384 : Int) ≤ (D : Int) + (H : Int) := by omega
    have hD' : (D : Int) ≤ 524288 := by omega
    have hH' : (H : Int) ≤ 524288 := by omega
    clear e hab hr0 hr1 hD hH
    go_enter Try.func3, Try.ntmps3
    go_wp2_with fail
    refine (bytes_any a0 a1 D cap0 H cap1 O _).mono ?_
    rintro e w' ⟨v, rfl, hw⟩
    subst hw
    cases v
    · go_wp2
      go_ret
      exact ⟨rfl, Below.refl _ _⟩
    · go_wp2_with fail
      refine (backing_any a0 a1 D cap0 H cap1 f h _ (by omega) (by omega) HR0.out HR1.out HAB.out).mono ?_
      rintro e w1 ⟨v0, a', rfl, hbuf, hb1⟩
      clear k1
      have B1 := hid hb1
      have HBF := hid hbuf
      clear hb1 hbuf
      go_wp2_with fail
      refine (newReader_any a' D (D + H) O _).mono ?_
      rintro e w2 ⟨rfl, hrd, cc, hw2⟩
      have B2 := hid (show Below w'.heap.size w' w2 from by rw [hw2]; exact B1.out.alloc B1.out.size _)
      have HRD := hid hrd
      have HBF2 := hid (show Bufi w2 w'.heap.size a' D (D + H) f from by rw [hw2]; exact HBF.out.alloc _)
      have HLT := hid HBF.out.lt
      clear hw2 hrd HBF
      go_wp2_with fail
      refine (room_first w1.heap.size D (D + H) O w'.heap.size a' f _ (by omega) hO HOK.out HBF2.out HLT.out B1.out.size HRD.out).mono ?_
      rintro e w3 ⟨g, len, c, o', G, rfl, hb3, hL⟩
      have B3 := hid (B2.out.trans hb3)
      have HL := hid hL
      have h_off := hL.off
      have h_left := hL.left
      have h_room : (len : Int) + 4096 ≤ (c : Int) := by have := hL.room; omega
      have h_least : (16384 : Int) ≤ (c : Int) := by have := hL.least; omega
      have h_bound : (c : Int) ≤ 2097152 := by have := hL.bound; omega
      have h_lenb := hL.lenb
      have h_gb := hid hL.gb
      have h_ne := hid hL.ne
      have h_most := hid hL.most
      clear hL hb3 HBF2 HLT HRD B2
      have hm : (c : Int) ≤ 2 * ((D : Int) + (H : Int)) := by have := h_most.out; omega
      clear h_most
      go_wp2_with fail
      refine (readerState_any w1.heap.size _ _ _ _ _ HL.out.reader.c0 HL.out.reader.c1).mono ?_
      rintro e w4 ⟨rfl, nd, hw4⟩
      have B4 := hid (show Below w'.heap.size w' w4 from by rw [hw4]; exact below_drewN B3.out nd)
      have HRD4 := hid (show Reader w4 w1.heap.size (.slice (some ⟨g, 0, none⟩) len c) o' from by rw [hw4]; exact HL.out.reader.drewN nd)
      have HRW4 := hid (show w4.rowIs g 5 c (fun i => .int .u8 (G i)) from by rw [hw4]; exact row_drewN HL.out.row nd)
      clear hw4
      have HD4 := hid (HR0.out.below B4.out (Nat.le_refl _))
      have HN4 := hid (show Row w4 (some ⟨g, 0, none⟩) len G from Or.inr ⟨g, 0, rfl, HRW4.out.lt, fun i hi => by rw [Nat.zero_add]; exact HRW4.out.cell (by omega)⟩)
      have hco : ¬ c = o' := by omega
      obtain ⟨ao, hao, hsl⟩ := cut_addr a0 D cap0 O hO
      have HX2 := hid (HD4.out.cut (ao := ao) hcap0 hao)
      clear hao
      have HX1 := hid (show Row w4 (some ⟨g, o', none⟩) (D - O) (fun i => f (O + i)) from by
        have := (HN4.out.cut (k := o') (cap := c) (ao := some ⟨g, o', none⟩) (by omega) (fun _ => by rw [Option.map_some, Addr.add_lit, Nat.zero_add])).congr (g := fun i => f (O + i)) (fun i hi => HL.out.bytes i hi)
        rw [h_left] at this
        exact this)
      go_wp2_with fail
      go_quiet (first | (go_at_call 13; exact Calls.quiet_of (same_any _ _ _ _ _ (fun i => f (O + i)) _ (by omega) (row_drewN' HX1.out _) (row_drewN' HX2.out _))))
      obtain ⟨w5, hw5⟩ : ∃ w5, w5 = w4.drewN nq := ⟨_, rfl⟩
      rw [← hw5]
      clear hsl
      have B5 := hid (show Below w'.heap.size w' w5 from by rw [hw5]; exact below_drewN B4.out nq)
      have HRD5 := hid (show Reader w5 w1.heap.size (.slice (some ⟨g, 0, none⟩) len c) o' from by rw [hw5]; exact HRD4.out.drewN nq)
      have HRW5 := hid (show w5.rowIs g 5 c (fun i => .int .u8 (G i)) from by rw [hw5]; exact row_drewN HRW4.out nq)
      have HN5 := hid (show Row w5 (some ⟨g, 0, none⟩) len G from by rw [hw5]; exact row_drewN' HN4.out nq)
      clear hw5
      clear HX1 HD4 HN4 HRW4 HRD4 B4
      go_wp2_with fail
      refine (clone_any (some ⟨g, 0, none⟩) len c G _ (by omega) (fun h => by cases h) HN5.out).mono ?_
      rintro e w6 ⟨a6, rfl, hcl6, hb6⟩
      have B6 := hid (B5.out.trans (hb6.mono B5.out.size))
      have HRD6 := hid (HRD5.out.of_block (hb6.block _ HRD5.out.lt))
      have HRW6 := hid (below_row hb6 HRW5.out HRW5.out.lt)
      have HS6 := hid (show Row w6 a6 len G from by
        rcases hcl6 with h' | ⟨h1, h2⟩
        · exact Or.inl h'
        · exact Or.inr ⟨_, 0, h1, h2.lt, fun i hi => by rw [Nat.zero_add]; exact h2.cell hi⟩)
      clear hcl6 hb6 HRD5 HRW5 HN5 B5
      go_wp2_with fail
      refine (room_same w1.heap.size g len c o' _ (by omega) (by omega) HRD6.out).mono ?_
      rintro e w7 ⟨rfl, m7, hw7⟩
      have B7 := hid (show Below w'.heap.size w' w7 from by rw [hw7]; exact below_drewN B6.out m7)
      have HRD7 := hid (show Reader w7 w1.heap.size (.slice (some ⟨g, 0, none⟩) len c) o' from by rw [hw7]; exact HRD6.out.drewN m7)
      have HRW7 := hid (show w7.rowIs g 5 c (fun i => .int .u8 (G i)) from by rw [hw7]; exact row_drewN HRW6.out m7)
      have HS7 := hid (show Row w7 a6 len G from by rw [hw7]; exact row_drewN' HS6.out m7)
      clear hw7 HRD6 HRW6 HS6 B6
      go_wp2_with fail
      refine (readerState_any w1.heap.size _ _ _ _ _ HRD7.out.c0 HRD7.out.c1).mono ?_
      rintro e w8 ⟨rfl, m8, hw8⟩
      have B8 := hid (show Below w'.heap.size w' w8 from by rw [hw8]; exact below_drewN B7.out m8)
      have HRW8 := hid (show w8.rowIs g 5 c (fun i => .int .u8 (G i)) from by rw [hw8]; exact row_drewN HRW7.out m8)
      have HS8 := hid (show Row w8 a6 len G from by rw [hw8]; exact row_drewN' HS7.out m8)
      have HN8 := hid (show Row w8 (some ⟨g, 0, none⟩) len G from Or.inr ⟨g, 0, rfl, HRW8.out.lt, fun i hi => by rw [Nat.zero_add]; exact HRW8.out.cell (by omega)⟩)
      clear hw8 HRD7 HRW7 HS7 B7
      go_wp2_with fail
      refine (same_any _ _ _ _ _ G _ (by omega) HN8.out HS8.out).mono ?_
      rintro e w9 ⟨rfl, m9, hw9⟩
      have B9 := hid (show Below w'.heap.size w' w9 from by rw [hw9]; exact below_drewN B8.out m9)
      have HRW9 := hid (show w9.rowIs g 5 c (fun i => .int .u8 (G i)) from by rw [hw9]; exact row_drewN HRW8.out m9)
      clear hw9 HRW8 HS8 HN8 B8
      have c9 := HRW9.out.cell (i := len) (by omega)
      have f9 := HRW9.out.frozen len
      have hpos : (0 : Int) < ((c - len : Nat) : Int) := by omega
      go_wp2
      go_quiet (fail)
      go_wp2
      go_ret
      exact ⟨rfl, below_drewN (B9.out.setCell h_gb.out _) nq⟩

set_option maxRecDepth 100000 in
set_option maxHeartbeats 800000 in
theorem walk_out (D cap0 H cap1 : Nat) (off : Int) (a0 a1 : Option Addr) (w : World) (h : 524288 < D ∨ 524288 < H ∨ off < 0 ∨ (D : Int) < off ∨ (0 < D + H ∧ D + H < 16384)) :
    Calls Try.prog 3 #[.slice a0 D cap0, .slice a1 H cap1, .int .i64 off] w fun e w' => e = .returned (.bool true) ∧ Below w.heap.size w w' := by
  by_cases g1 : (524288 : Int) < (D : Int)
  · clear h
    go_enter Try.func3, Try.ntmps3
    go_wp2_with fail
    refine (bytes_any a0 a1 D cap0 H cap1 off _).mono ?_
    rintro e w' ⟨v, rfl, hw⟩
    subst hw
    cases v <;> go_wp2 <;> go_ret <;> exact ⟨rfl, Below.refl _ _⟩
  · by_cases g2 : (524288 : Int) < (H : Int)
    · clear h
      go_enter Try.func3, Try.ntmps3
      go_wp2_with fail
      refine (bytes_any a0 a1 D cap0 H cap1 off _).mono ?_
      rintro e w' ⟨v, rfl, hw⟩
      subst hw
      cases v <;> go_wp2 <;> go_ret <;> exact ⟨rfl, Below.refl _ _⟩
    · by_cases g3 : off < 0 ∨ (D : Int) < off
      · clear h
        rcases g3 with g3 | g3
        all_goals
          go_enter Try.func3, Try.ntmps3
          go_wp2_with fail
          refine (bytes_any a0 a1 D cap0 H cap1 off _).mono ?_
          rintro e w' ⟨v, rfl, hw⟩
          subst hw
          cases v <;> go_wp2 <;> go_ret <;> exact ⟨rfl, Below.refl _ _⟩
      · have k1 : 0 ≤ off := by omega
        have k2 : off ≤ (D : Int) := by omega
        have k3 : ((D : Int) + (H : Int) != 0) = true := by rw [bne_iff_ne]; omega
        have k4 : (D : Int) + (H : Int) < 16384 := by omega
        clear h g3
        go_enter Try.func3, Try.ntmps3
        go_wp2_with fail
        refine (bytes_any a0 a1 D cap0 H cap1 off _).mono ?_
        rintro e w' ⟨v, rfl, hw⟩
        subst hw
        cases v <;> go_wp2 <;> go_ret <;> exact ⟨rfl, Below.refl _ _⟩

theorem walk_any (D cap0 H cap1 : Nat) (off : Int) (a0 a1 : Option Addr) (f h : Nat → Int) (w : World) (hab : a0 = none → D = 0 ∧ cap0 = 0) (hr0 : Row w a0 D f) (hr1 : Row w a1 H h) (hcap0 : D ≤ cap0) :
    Calls Try.prog 3 #[.slice a0 D cap0, .slice a1 H cap1, .int .i64 off] w fun e w' => e = .returned (.bool true) ∧ Below w.heap.size w w' := by
  by_cases hx : 524288 < D ∨ 524288 < H ∨ off < 0 ∨ (D : Int) < off ∨ (0 < D + H ∧ D + H < 16384)
  · exact walk_out D cap0 H cap1 off a0 a1 w hx
  · obtain ⟨O, rfl⟩ := Int.eq_ofNat_of_zero_le (show 0 ≤ off by omega)
    exact walk_in D cap0 H cap1 O a0 a1 f h w hab hr0 hr1 hcap0 (by omega) (by omega) (by omega) (by omega)
end Go.Proofs.Qxb6603239a.fnReaderRoomReachableBoundAndIdempotent
