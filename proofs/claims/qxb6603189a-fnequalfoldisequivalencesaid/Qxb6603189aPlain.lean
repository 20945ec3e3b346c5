/- PLAIN LAWS of case folding: no Go in sight. -/
namespace Go.Proofs.Qxb6603189a.Fold

/-- a byte's number, its upper-case ASCII letters lowered -/
def low (c : Int) : Int := if 65 ≤ c ∧ c ≤ 90 then c + 32 else c

theorem low_hit {c : Int} (h0 : 65 ≤ c) (h1 : c ≤ 90) : low c = c + 32 := by unfold low; rw [if_pos ⟨h0, h1⟩]
theorem low_miss {c : Int} (h : ¬ (65 ≤ c ∧ c ≤ 90)) : low c = c := by unfold low; rw [if_neg h]

/-- byte k of s, as a number (0 beyond the end) -/
def byteAt (s : ByteArray) (k : Nat) : Int := ((s.data.toList.getD k 0).toNat : Int)

theorem byteAt_get (s : ByteArray) (k : Nat) (h : k < s.size) : (s[k].toNat : Int) = byteAt s k := by
  unfold byteAt
  have h' : k < s.data.toList.length := by simpa using h
  rw [List.getD_eq_getElem?_getD, List.getElem?_eq_getElem h']
  rfl

/-- the folded bytes of s -/
def folded (s : ByteArray) : List Int := s.data.toList.map fun c => low (c.toNat : Int)

/-- equalFold's answer -/
def eqf (a b : ByteArray) : Bool := folded a == folded b

theorem folded_length (s : ByteArray) : (folded s).length = s.size := by
  unfold folded
  rw [List.length_map]
  rfl

theorem folded_get (s : ByteArray) (k : Nat) (h : k < (folded s).length) : (folded s)[k] = low (byteAt s k) := by
  have hk : k < s.data.toList.length := by simpa [folded] using h
  unfold byteAt
  rw [List.getD_eq_getElem?_getD, List.getElem?_eq_getElem hk]
  simp [folded]

theorem eqf_of {a b : ByteArray} (hs : a.size = b.size) (h : ∀ j, j < a.size → low (byteAt a j) = low (byteAt b j)) : eqf a b = true := by
  unfold eqf
  rw [beq_iff_eq]
  apply List.ext_getElem (by rw [folded_length, folded_length, hs])
  intro i h1 h2
  rw [folded_get, folded_get]
  exact h i (by rw [folded_length] at h1; exact h1)

theorem eqf_len {a b : ByteArray} (hs : a.size ≠ b.size) : eqf a b = false := by
  unfold eqf
  rw [beq_eq_false_iff_ne]
  intro h
  have := congrArg List.length h
  rw [folded_length, folded_length] at this
  exact hs this

theorem eqf_at {a b : ByteArray} (hs : a.size = b.size) (k : Nat) (hk : k < a.size) (h : low (byteAt a k) ≠ low (byteAt b k)) : eqf a b = false := by
  unfold eqf
  rw [beq_eq_false_iff_ne]
  intro he
  apply h
  rw [← folded_get a k (by rw [folded_length]; exact hk), ← folded_get b k (by rw [folded_length]; omega)]
  simp only [he]

theorem eqf_refl (a : ByteArray) : eqf a a = true := by unfold eqf; simp
theorem eqf_comm (a b : ByteArray) : eqf a b = eqf b a := by
  unfold eqf
  rw [Bool.eq_iff_iff, beq_iff_eq, beq_iff_eq]
  exact ⟨fun h => h.symm, fun h => h.symm⟩
theorem eqf_trans {a b c : ByteArray} (h1 : eqf a b = true) (h2 : eqf b c = true) : eqf a c = true := by
  unfold eqf at *
  rw [beq_iff_eq] at *
  rw [h1, h2]

end Go.Proofs.Qxb6603189a.Fold
