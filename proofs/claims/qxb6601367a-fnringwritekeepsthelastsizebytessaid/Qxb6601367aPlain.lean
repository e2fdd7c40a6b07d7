/-
  THE PLAIN LAW OF THE RING: no Go in sight. 'S': the stream (what the ring held, oldest first, then what is written); 'zs': the ring's buffer when 't' bytes of the stream have gone in; 'nx': where the next byte goes once it is full.
-/
namespace Go.Proofs.Qxb6601367a.Plain

/-- The ring holds the last bytes of the first 't' bytes of the stream. -/
structure Good (size next : Nat) (S zs : List Int) (t nx : Nat) : Prop where
  le : t ≤ S.length
  len : zs.length = min t size
  nx : nx = (next + (t - zs.length)) % size
  at_ : ∀ k, t - zs.length ≤ k → k < t → zs.getD ((next + k) % size) 0 = S.getD k 0

/-- 'cs' laid over 'zs' from place 'i' on. -/
def over (zs : List Int) (i : Nat) (cs : List Int) : List Int := zs.take i ++ (cs ++ zs.drop (i + cs.length))

theorem length_over (zs : List Int) (i : Nat) (cs : List Int) (h : i + cs.length ≤ zs.length) : (over zs i cs).length = zs.length := by
  simp [over]; omega

theorem over_in (zs : List Int) (i : Nat) (cs : List Int) (h : i + cs.length ≤ zs.length) (j : Nat) (hj : j < cs.length) : (over zs i cs).getD (i + j) 0 = cs.getD j 0 := by
  unfold over
  rw [List.getD_eq_getElem?_getD, List.getD_eq_getElem?_getD, List.getElem?_append_right (by simp; omega), List.getElem?_append_left (by simp; omega)]
  congr 2
  simp
  omega

theorem over_out (zs : List Int) (i : Nat) (cs : List Int) (h : i + cs.length ≤ zs.length) (q : Nat) (hq : q < i ∨ i + cs.length ≤ q) : (over zs i cs).getD q 0 = zs.getD q 0 := by
  unfold over
  rw [List.getD_eq_getElem?_getD, List.getD_eq_getElem?_getD]
  rcases hq with hq | hq
  · rw [List.getElem?_append_left (by simp; omega), List.getElem?_take, if_pos hq]
  · rw [List.getElem?_append_right (by simp; omega), List.getElem?_append_right (by simp; omega), List.getElem?_drop]
    congr 2
    simp
    omega

/-- What the ring holds, oldest first. -/
def rot (size next : Nat) (xs : List Int) : List Int := (List.range xs.length).map fun k => xs.getD ((next + k) % size) 0

theorem length_rot (size next : Nat) (xs : List Int) : (rot size next xs).length = xs.length := by simp [rot]

theorem get_rot (size next : Nat) (xs : List Int) (k : Nat) (h : k < xs.length) : (rot size next xs).getD k 0 = xs.getD ((next + k) % size) 0 := by
  simp [rot, List.getD_eq_getElem?_getD, h]

theorem take_rot (size next : Nat) (xs : List Int) (k : Nat) (h : k < xs.length) : (rot size next xs).take (k + 1) = (rot size next xs).take k ++ [xs.getD ((next + k) % size) 0] := by
  have hk : k < (rot size next xs).length := by rw [length_rot]; exact h
  rw [List.take_succ_eq_append_getElem hk]
  congr 2
  rw [← get_rot size next xs k h, List.getD_eq_getElem?_getD, List.getElem?_eq_getElem hk]
  rfl

theorem get_left (a b : List Int) (k : Nat) (h : k < a.length) : (a ++ b).getD k 0 = a.getD k 0 := by
  rw [List.getD_eq_getElem?_getD, List.getD_eq_getElem?_getD, List.getElem?_append_left h]

theorem get_right (a b : List Int) (k : Nat) : (a ++ b).getD (a.length + k) 0 = b.getD k 0 := by
  rw [List.getD_eq_getElem?_getD, List.getD_eq_getElem?_getD, List.getElem?_append_right (by omega)]
  congr 2
  omega

theorem get_take (a : List Int) (n k : Nat) (h : k < n) : (a.take n).getD k 0 = a.getD k 0 := by
  rw [List.getD_eq_getElem?_getD, List.getD_eq_getElem?_getD, List.getElem?_take, if_pos h]

theorem get_drop (a : List Int) (n k : Nat) : (a.drop n).getD k 0 = a.getD (n + k) 0 := by
  rw [List.getD_eq_getElem?_getD, List.getD_eq_getElem?_getD, List.getElem?_drop]

/-- At the start. -/
theorem start (size next : Nat) (xs ps : List Int) (hn : xs.length ≤ size) (hx : next < size) : Good size next (rot size next xs ++ ps) xs xs.length next := by
  refine ⟨by rw [List.length_append, length_rot]; omega, by omega, ?_, fun k _ hk => ?_⟩
  · rw [Nat.sub_self, Nat.add_zero, Nat.mod_eq_of_lt hx]
  · rw [get_left _ _ _ (by rw [length_rot]; exact hk), get_rot _ _ _ _ hk]

/-- The ring is filled up. -/
theorem filled (size next fill : Nat) (xs ps : List Int) (hx : next < size) (h0 : xs.length < size → next = 0) (hf : xs.length + fill ≤ size) (hp : fill ≤ ps.length) :
    Good size next (rot size next xs ++ ps) (xs ++ ps.take fill) (xs.length + fill) next := by
  have hl : (xs ++ ps.take fill).length = xs.length + fill := by simp; omega
  refine ⟨by rw [List.length_append, length_rot]; omega, by rw [hl]; omega, ?_, fun k _ hk => ?_⟩
  · rw [hl, Nat.sub_self, Nat.add_zero, Nat.mod_eq_of_lt hx]
  · by_cases hkx : k < xs.length
    · rw [get_left (rot size next xs) _ _ (by rw [length_rot]; exact hkx), get_rot _ _ _ _ hkx]
      refine get_left _ _ _ ?_
      by_cases hs : xs.length < size
      · have := h0 hs
        subst this
        rw [Nat.zero_add, Nat.mod_eq_of_lt (by omega)]
        exact hkx
      · have : (next + k) % size < size := Nat.mod_lt _ (by omega)
        omega
    · have h00 := h0 (by omega)
      subst h00
      rw [Nat.zero_add, Nat.mod_eq_of_lt (by omega)]
      obtain ⟨j, rfl⟩ : ∃ j, k = xs.length + j := ⟨k - xs.length, by omega⟩
      rw [get_right]
      have e := get_right (rot size 0 xs) ps j
      rw [length_rot] at e
      rw [e, get_take _ _ _ (by omega)]

theorem mod_eq_sub (a size : Nat) (h : a < size) (b : Nat) : (a + b * size) % size = a := by
  rw [Nat.add_mul_mod_self_right, Nat.mod_eq_of_lt h]

/-- A round of the loop: 'k' bytes more of the stream go over the oldest ones. -/
theorem step (size next : Nat) (S zs : List Int) (t nx k : Nat) (h : Good size next S zs t nx) (hfull : zs.length = size) (hk : t + k ≤ S.length) (hn : nx + k ≤ size) :
    Good size next S (over zs nx ((S.drop t).take k)) (t + k) ((nx + k) % size) := by
  have hst : size ≤ t := by have := h.len; omega
  have hcl : ((S.drop t).take k).length = k := by simp; omega
  have hol : (over zs nx ((S.drop t).take k)).length = size := by rw [length_over _ _ _ (by rw [hcl]; omega), hfull]
  have hnx : nx = (next + (t - size)) % size := by have := h.nx; rw [hfull] at this; exact this
  have hnx' : nx = (next + t) % size := by
    rw [hnx, ← Nat.add_mod_right (next + (t - size)) size]
    congr 1
    omega
  refine ⟨hk, by rw [hol]; omega, ?_, fun K hK1 hK2 => ?_⟩
  · rw [hol, hnx, Nat.mod_add_mod]
    congr 1
    omega
  · rw [hol] at hK1
    by_cases hKt : t ≤ K
    · obtain ⟨j, rfl⟩ : ∃ j, K = t + j := ⟨K - t, by omega⟩
      have e : (next + (t + j)) % size = nx + j := by
        rw [← Nat.add_assoc, Nat.add_mod, ← hnx']
        have hj : j < size := by omega
        rw [Nat.mod_eq_of_lt hj, Nat.mod_eq_of_lt (by omega)]
      rw [e, over_in _ _ _ (by rw [hcl]; omega) _ (by rw [hcl]; omega), get_take _ _ _ (by omega), get_drop]
    · have hq : (next + K) % size < nx ∨ nx + k ≤ (next + K) % size := by
        apply Classical.byContradiction
        intro hc
        have hq1 : nx ≤ (next + K) % size := by omega
        have hq2 : (next + K) % size < nx + k := by omega
        have e1 := Nat.div_add_mod (next + K) size
        have e2 := Nat.div_add_mod (next + t) size
        rw [← hnx'] at e2
        generalize (next + K) / size = u at e1
        generalize (next + t) / size = v at e2
        generalize (next + K) % size = q at *
        -- next + K = size * u + q, next + t = size * v + nx, 0 <= q - nx < k, t + k - size <= K < t
        have h1 : size * u + q < size * v + nx := by omega
        have h2 : size * v + nx + k ≤ size * u + q + size := by omega
        have h3 : u < v := by
          apply Classical.byContradiction
          intro h
          have : size * v ≤ size * u := Nat.mul_le_mul_left _ (by omega)
          omega
        have h4 : size * (u + 1) ≤ size * v := Nat.mul_le_mul_left _ h3
        rw [Nat.mul_add, Nat.mul_one] at h4
        omega
      rw [over_out _ _ _ (by rw [hcl]; omega) _ (by rw [hcl]; exact hq)]
      exact h.at_ K (by rw [hfull]; omega) (by omega)

end Go.Proofs.Qxb6601367a.Plain
