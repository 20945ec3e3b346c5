/- PLAIN LAWS of spans: no Go in sight. -/
namespace Go.Proofs.Qxb6603239a

/-- how many bytes the first k spans hold together -/
def pre (s t : Nat → Nat) : Nat → Nat
  | 0 => 0
  | k + 1 => pre s t k + (t k - s k)

theorem pre_le {s t : Nat → Nat} {n L : Nat} (h : ∀ i, i < n → s i ≤ t i ∧ t i ≤ L) (hL : L ≤ 131072) : ∀ k, k ≤ n → pre s t k ≤ k * 131072
  | 0, _ => Nat.zero_le _
  | k + 1, hk => by
    have h1 := pre_le h hL k (by omega)
    have h2 := h k (by omega)
    show pre s t k + (t k - s k) ≤ (k + 1) * 131072
    omega

theorem pre_mono {s t : Nat → Nat} {i : Nat} : ∀ k, i ≤ k → pre s t i ≤ pre s t k
  | 0, h => by
    obtain rfl : i = 0 := by omega
    exact Nat.le_refl _
  | k + 1, h => by
    by_cases e : i = k + 1
    · rw [e]; exact Nat.le_refl _
    · have := pre_mono (s := s) (t := t) (i := i) k (by omega)
      show pre s t i ≤ pre s t k + (t k - s k)
      omega

theorem pre_zero {s t : Nat → Nat} {n : Nat} (h : ∀ i, i < n → t i ≤ 0) : ∀ k, k ≤ n → pre s t k = 0
  | 0, _ => rfl
  | k + 1, hk => by
    have h1 := pre_zero (s := s) h k (by omega)
    have h2 := h k (by omega)
    show pre s t k + (t k - s k) = 0
    omega

/-- the bytes of the first k spans, one behind the other -/
def flat (f : Nat → Int) (s t : Nat → Nat) : Nat → List Int
  | 0 => []
  | k + 1 => flat f s t k ++ (List.range (t k - s k)).map fun j => f (s k + j)

theorem flat_length (f : Nat → Int) (s t : Nat → Nat) : ∀ k, (flat f s t k).length = pre s t k
  | 0 => rfl
  | k + 1 => by
    show (flat f s t k ++ _).length = pre s t k + (t k - s k)
    rw [List.length_append, flat_length f s t k, List.length_map, List.length_range]

theorem flat_get (f : Nat → Int) (s t : Nat → Nat) (i j : Nat) (hj : j < t i - s i) : ∀ k, i < k → (flat f s t k)[pre s t i + j]? = some (f (s i + j))
  | 0, h => absurd h (Nat.not_lt_zero _)
  | k + 1, h => by
    show (flat f s t k ++ _)[pre s t i + j]? = _
    by_cases e : i = k
    · subst e
      rw [List.getElem?_append_right (by rw [flat_length]; omega), flat_length, Nat.add_sub_cancel_left, List.getElem?_map, List.getElem?_range hj]
      rfl
    · have h1 := flat_get f s t i j hj k (by omega)
      rw [List.getElem?_append_left, h1]
      rw [flat_length]
      have := pre_mono (s := s) (t := t) (i := i + 1) k (by omega)
      have e2 : pre s t (i + 1) = pre s t i + (t i - s i) := rfl
      omega

end Go.Proofs.Qxb6603239a
