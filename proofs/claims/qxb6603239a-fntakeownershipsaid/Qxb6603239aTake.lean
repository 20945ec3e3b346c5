/- (*parser).take (27). -/
import Derived.Test.Qxb6603239aBase
import Derived.Test.Qxb6603239aPlain
namespace Go.Proofs.Qxb6603239a
open Go.RowKit

theorem Try.info22 : (Try.prog.info? 22).map (fun i => (i.zero, i.size, i.bytes)) = some (some (.slice none 0 0), 1, 24) := by kernel_rfl

set_option maxRecDepth 100000 in
set_option maxHeartbeats 400000 in
theorem take_alias (gp gs n bb boff L cap : Nat) (s t : Nat → Nat) (w : World) (hn : n ≤ 8192) (hL : L ≤ 131072) (hcap : L ≤ cap) (hst : ∀ i, i < n → s i ≤ t i ∧ t i ≤ L) (hbig : 65536 < pre s t n)
    (hgp : gp < w.heap.size) (hgs : gs < w.heap.size) (hp : w.cell? ⟨gp, 2, none⟩ = some (.slice (some ⟨gs, 0, none⟩) n n))
    (hc : ∀ i, i < n → w.cell? ⟨gs, i * 2, none⟩ = some (.int .i64 (s i)) ∧ w.cell? ⟨gs, i * 2 + 1, none⟩ = some (.int .i64 (t i))) :
    Calls Try.prog 27 #[.pointer (some ⟨gp, 0, none⟩), .slice (some ⟨bb, boff, none⟩) L cap] w fun e w' => ∃ (ga : Nat) (adr : Nat → Option Addr), e = .returned (.tuple #[.slice (some ⟨ga, 0, none⟩) n n, .bool true]) ∧ w.heap.size ≤ ga ∧
      w'.rowIs ga 22 n (fun i => .slice (adr i) (t i - s i) (t i - s i)) ∧ Below w.heap.size w w' ∧ ∀ i, i < n → t i = s i ∨ adr i = some ⟨bb, boff + s i, none⟩ := by
  have HC := hid hc
  have HST := hid hst
  have HP := hid hp
  have hpl := pre_le hst hL n (Nat.le_refl _)
  clear hc hst
  go_enter Try.func27, Try.ntmps27
  go_wp2
  go_loopw [6, 20] (fun v i wr => ∃ k : Nat, i = .int .i64 k ∧ v = .int .i64 (pre s t k) ∧ k ≤ n ∧ Below w.heap.size w wr) (fun _ i _ => n - (intOf i).toNat)
  case atStart => exact ⟨0, rfl, rfl, Nat.zero_le _, Below.refl _ _⟩
  case round =>
    obtain ⟨k, rfl, rfl, hk, hbel⟩ := hrel
    have HB := hid hbel
    clear hbel
    have hpk := pre_mono (s := s) (t := t) n hk
    by_cases hlt : k < n
    · have c1 : wr.cell? ⟨gs, k * 2, none⟩ = some (.int .i64 (s k)) := by
        rw [HB.out.cell (p := ⟨gs, k * 2, none⟩) hgs]
        exact (HC.out k hlt).1
      have c2 : wr.cell? ⟨gs, k * 2 + 1, none⟩ = some (.int .i64 (t k)) := by
        rw [HB.out.cell (p := ⟨gs, k * 2 + 1, none⟩) hgs]
        exact (HC.out k hlt).2
      obtain ⟨b1, b2⟩ := HST.out k hlt
      clear hbig hp
      go_wp2
      go_roundw
      case rel => exact ⟨k + 1, by go_num, val_int (by show _ = ((pre s t k + (t k - s k) : Nat) : Int); omega), by omega, HB.out.alloc HB.out.size _⟩
      case measure => simp [intOf]; omega
    · obtain rfl : k = n := by omega
      have hmk := run_make_row' (P := Try.prog) 48 22 (.slice none 0 0) 24 Try.underlying48 Try.info22 rfl .i64 .i64 k (by omega) (by omega)
      have c0 : wr.cell? ⟨gp, 2, none⟩ = some (.slice (some ⟨gs, 0, none⟩) k k) := by
        rw [HB.out.cell (p := ⟨gp, 2, none⟩) hgp]
        exact HP.out
      have hgp2 : gp < wr.heap.size := Nat.lt_of_lt_of_le hgp HB.out.size
      have hd : decide ((65536 : Int) < (pre s t k : Int)) = true := by rw [decide_eq_true_iff]; omega
      have HG := hid HB.out.size
      clear hp hk hpk hlt hbig
      go_wp2
      go_loopw [49] (fun i wx => ∃ j : Nat, i = .int .i64 j ∧ j ≤ k ∧ Below w.heap.size w wx ∧ wr.heap.size < wx.heap.size ∧
          wx.rowIs wr.heap.size 22 k (fun i => if i < j then .slice (if t i = s i then some ⟨bb, boff, none⟩ else some ⟨bb, boff + s i, none⟩) (t i - s i) (t i - s i) else .slice none 0 0)) (fun i _ => k - (intOf i).toNat)
      case atStart => exact ⟨0, rfl, Nat.zero_le _, HB.out.alloc HB.out.size _, by simp, row_start (World.rowIs_made _ _ _ _)⟩
      case round =>
        clear hmk
        obtain ⟨j, rfl, hj, hbel, hsz, hrow⟩ := hrel
        have HB2 := hid hbel
        have HR := hid hrow
        clear hbel hrow
        by_cases hlt : j < k
        · have c1 : wr.cell? ⟨gs, j * 2, none⟩ = some (.int .i64 (s j)) := by
            rw [HB2.out.cell (p := ⟨gs, j * 2, none⟩) hgs]
            exact (HC.out j hlt).1
          have c2 : wr.cell? ⟨gs, j * 2 + 1, none⟩ = some (.int .i64 (t j)) := by
            rw [HB2.out.cell (p := ⟨gs, j * 2 + 1, none⟩) hgs]
            exact (HC.out j hlt).2
          have c3 := HR.out.cell hlt
          have f3 := HR.out.frozen j
          obtain ⟨b1, b2⟩ := HST.out j hlt
          go_wp2
          go_roundw
          case rel => exact ⟨j + 1, by go_num, by omega, (HB2.out.setCell HG.out _).alloc (HB2.out.setCell HG.out _).size _, lt_set_alloc hsz, (row_step HR.out rfl).alloc _⟩
          case measure => simp [intOf]; omega
        · obtain rfl : j = k := by omega
          have HR2 := hid (row_end HR.out)
          go_wp2
          go_ret2
          exact ⟨_, _, rfl, HG.out, HR2.out, HB2.out, fun i _ => by
            by_cases e : t i = s i
            · exact Or.inl e
            · exact Or.inr (if_neg e)⟩
end Go.Proofs.Qxb6603239a
