/- PLAIN LAWS of case folding: no Go in sight. -/
namespace Go.Proofs.Qxb6603189a.Fold

/-- a byte's number, its upper-case ASCII letters lowered -/
def low (c : Int) : Int := if 65 ≤ c ∧ c ≤ 90 then c + 32 else c

theorem low_hit {c : Int} (h0 : 65 ≤ c) (h1 : c ≤ 90) : low c = c + 32 := by unfold low; rw [if_pos ⟨h0, h1⟩]
theorem low_miss {c : Int} (h : ¬ (65 ≤ c ∧ c ≤ 90)) : low c = c := by unfold low; rw [if_neg h]

/-- byte k of s, as a number (0 beyond the end) -/
def byteAt (s : ByteArray) (k : Nat) : Int := ((s.data.toList.getD k 0).toNat : Int)

theorem byteAt_get (s : ByteArray) (k : Nat) (h : k < s.size) : (s[k].toNat : Int) = byteAt s k := by
  unfold byteAt
  have h' : k < s.data.toList.length := by simpa using h
  rw [List.getD_eq_getElem?_getD, List.getElem?_eq_getElem h']
  rfl

theorem byte_bd (c : UInt8) : 0 ≤ (c.toNat : Int) ∧ (c.toNat : Int) ≤ 255 := by have := c.toNat_lt; omega

/-- the folded bytes of s -/
def folded (s : ByteArray) : List Int := s.data.toList.map fun c => low (c.toNat : Int)

/-- equalFold's answer -/
def eqf (a b : ByteArray) : Bool := folded a == folded b

theorem folded_length (s : ByteArray) : (folded s).length = s.size := by
  unfold folded
  rw [List.length_map]
  rfl

theorem folded_get (s : ByteArray) (k : Nat) (h : k < (folded s).length) : (folded s)[k] = low (byteAt s k) := by
  have hk : k < s.data.toList.length := by simpa [folded] using h
  unfold byteAt
  rw [List.getD_eq_getElem?_getD, List.getElem?_eq_getElem hk]
  simp [folded]

theorem eqf_of {a b : ByteArray} (hs : a.size = b.size) (h : ∀ j, j < a.size → low (byteAt a j) = low (byteAt b j)) : eqf a b = true := by
  unfold eqf
  rw [beq_iff_eq]
  apply List.ext_getElem (by rw [folded_length, folded_length, hs])
  intro i h1 h2
  rw [folded_get, folded_get]
  exact h i (by rw [folded_length] at h1; exact h1)

theorem eqf_len {a b : ByteArray} (hs : a.size ≠ b.size) : eqf a b = false := by
  unfold eqf
  rw [beq_eq_false_iff_ne]
  intro h
  have := congrArg List.length h
  rw [folded_length, folded_length] at this
  exact hs this

theorem eqf_at {a b : ByteArray} (hs : a.size = b.size) (k : Nat) (hk : k < a.size) (h : low (byteAt a k) ≠ low (byteAt b k)) : eqf a b = false := by
  unfold eqf
  rw [beq_eq_false_iff_ne]
  intro he
  apply h
  rw [← folded_get a k (by rw [folded_length]; exact hk), ← folded_get b k (by rw [folded_length]; omega)]
  simp only [he]

theorem eqf_refl (a : ByteArray) : eqf a a = true := by unfold eqf; simp
theorem eqf_comm (a b : ByteArray) : eqf a b = eqf b a := by
  unfold eqf
  rw [Bool.eq_iff_iff, beq_iff_eq, beq_iff_eq]
  exact ⟨fun h => h.symm, fun h => h.symm⟩
theorem eqf_trans {a b c : ByteArray} (h1 : eqf a b = true) (h2 : eqf b c = true) : eqf a c = true := by
  unfold eqf at *
  rw [beq_iff_eq] at *
  rw [h1, h2]

/-- a byte's number, its lower-case ASCII letters raised -/
def up (c : Int) : Int := if 97 ≤ c ∧ c ≤ 122 then c - 32 else c
theorem up_hit {c : Int} (h0 : 97 ≤ c) (h1 : c ≤ 122) : up c = c - 32 := by unfold up; rw [if_pos ⟨h0, h1⟩]
theorem up_miss {c : Int} (h : ¬ (97 ≤ c ∧ c ≤ 122)) : up c = c := by unfold up; rw [if_neg h]

/-- the raised bytes of s -/
def raised (s : ByteArray) : List Int := s.data.toList.map fun c => up (c.toNat : Int)

theorem raised_length (s : ByteArray) : (raised s).length = s.size := by
  unfold raised
  rw [List.length_map]
  rfl

theorem raised_getD (s : ByteArray) (k : Nat) (h : k < s.size) : (raised s).getD k 0 = up (byteAt s k) := by
  have hk : k < s.data.toList.length := by simpa using h
  unfold byteAt raised
  rw [List.getD_eq_getElem?_getD, List.getD_eq_getElem?_getD, List.getElem?_map, List.getElem?_eq_getElem hk]
  rfl

theorem low_up {c d : Int} (h : 0 ≤ c ∧ c ≤ 255) (g : 0 ≤ d ∧ d ≤ 255) : up c = up d ↔ low c = low d := by
  unfold up low
  by_cases h1 : 97 ≤ c ∧ c ≤ 122 <;> by_cases h2 : 97 ≤ d ∧ d ≤ 122 <;> by_cases h3 : 65 ≤ c ∧ c ≤ 90 <;> by_cases h4 : 65 ≤ d ∧ d ≤ 90 <;>
    simp only [h1, h2, h3, h4, if_true, if_false, and_self] <;> omega

theorem up_bd {c : Int} (h : 0 ≤ c ∧ c ≤ 255) : 0 ≤ up c ∧ up c ≤ 255 := by
  unfold up
  by_cases h1 : 97 ≤ c ∧ c ≤ 122
  · rw [if_pos h1]; omega
  · rw [if_neg h1]; exact h

theorem ofNat_inj {c d : Int} (h : 0 ≤ c ∧ c ≤ 255) (g : 0 ≤ d ∧ d ≤ 255) : UInt8.ofNat c.toNat = UInt8.ofNat d.toNat ↔ c = d := by
  constructor
  · intro e
    have := congrArg UInt8.toNat e
    rw [UInt8.toNat_ofNat', UInt8.toNat_ofNat'] at this
    omega
  · intro e; rw [e]

theorem map_iff {A B C : Type} {f : A → B} {g : A → C} (h : ∀ x y, f x = f y ↔ g x = g y) : ∀ l m : List A, l.map f = m.map f ↔ l.map g = m.map g
  | [], [] => by simp
  | [], _ :: _ => by simp
  | _ :: _, [] => by simp
  | x :: l, y :: m => by
    rw [List.map_cons, List.map_cons, List.map_cons, List.map_cons, List.cons.injEq, List.cons.injEq, h x y, map_iff h l m]

/-- the two bytewise models answer alike -/
theorem same_models (a b : ByteArray) : (raised a).map (fun n => UInt8.ofNat n.toNat) = (raised b).map (fun n => UInt8.ofNat n.toNat) ↔ folded a = folded b := by
  unfold raised folded
  rw [List.map_map, List.map_map]
  apply map_iff
  intro x y
  show UInt8.ofNat (up (x.toNat : Int)).toNat = UInt8.ofNat (up (y.toNat : Int)).toNat ↔ _
  rw [ofNat_inj (up_bd (byte_bd x)) (up_bd (byte_bd y))]
  exact low_up (byte_bd x) (byte_bd y)

/-- a byte's number, the case of an ASCII letter swapped -/
def flip (c : Int) : Int := if 97 ≤ c ∧ c ≤ 122 then c - 32 else if 65 ≤ c ∧ c ≤ 90 then c + 32 else c

theorem flip_bd {c : Int} (h : 0 ≤ c ∧ c ≤ 255) : 0 ≤ flip c ∧ flip c ≤ 255 := by
  unfold flip
  by_cases h1 : 97 ≤ c ∧ c ≤ 122
  · rw [if_pos h1]; omega
  · rw [if_neg h1]
    by_cases h2 : 65 ≤ c ∧ c ≤ 90
    · rw [if_pos h2]; omega
    · rw [if_neg h2]; exact h

theorem low_flip (c : Int) : low (flip c) = low c := by
  unfold flip low
  by_cases h1 : 97 ≤ c ∧ c ≤ 122 <;> by_cases h2 : 65 ≤ c ∧ c ≤ 90 <;> by_cases h3 : 65 ≤ c - 32 ∧ c - 32 ≤ 90 <;> by_cases h4 : 65 ≤ c + 32 ∧ c + 32 ≤ 90 <;>
    simp only [h1, h2, h3, h4, if_true, if_false, and_self] <;> omega

/-- the bytes of s, the case of each letter swapped -/
def flipped (s : ByteArray) : List Int := s.data.toList.map fun c => flip (c.toNat : Int)

theorem flipped_length (s : ByteArray) : (flipped s).length = s.size := by
  unfold flipped
  rw [List.length_map]
  rfl

theorem flipped_getD (s : ByteArray) (k : Nat) (h : k < s.size) : (flipped s).getD k 0 = flip (byteAt s k) := by
  have hk : k < s.data.toList.length := by simpa using h
  unfold byteAt flipped
  rw [List.getD_eq_getElem?_getD, List.getD_eq_getElem?_getD, List.getElem?_map, List.getElem?_eq_getElem hk]
  rfl

theorem byteAt_bd (s : ByteArray) (k : Nat) : 0 ≤ byteAt s k ∧ byteAt s k ≤ 255 := byte_bd _

/-- bytes out of numbers: size and bytes -/
theorem size_of_nums (xs : List Int) (s : ByteArray) (h : s.data.toList = xs.map fun n => UInt8.ofNat n.toNat) : s.size = xs.length := by
  have := congrArg List.length h
  rw [List.length_map] at this
  exact this

theorem byteAt_of_nums (xs : List Int) (s : ByteArray) (h : s.data.toList = xs.map fun n => UInt8.ofNat n.toNat) (k : Nat) (hk : k < xs.length) (hb : 0 ≤ xs.getD k 0 ∧ xs.getD k 0 ≤ 255) : byteAt s k = xs.getD k 0 := by
  unfold byteAt
  rw [h]
  rw [List.getD_eq_getElem?_getD, List.getD_eq_getElem?_getD, List.getElem?_map, List.getElem?_eq_getElem hk] at *
  simp only [Option.map_some, Option.getD_some] at *
  rw [UInt8.toNat_ofNat']
  omega

/-- flipping the top bit of a byte that is no letter is seen -/
theorem low_top {c d : Int} (h2 : ¬ (65 ≤ c ∧ c ≤ 90)) (hd : d = c + 128 ∧ c < 128 ∨ d = c - 128 ∧ 128 ≤ c) : low c ≠ low d := by
  unfold low
  rw [if_neg h2]
  by_cases h3 : 65 ≤ d ∧ d ≤ 90
  · rw [if_pos h3]; omega
  · rw [if_neg h3]; omega

end Go.Proofs.Qxb6603189a.Fold
