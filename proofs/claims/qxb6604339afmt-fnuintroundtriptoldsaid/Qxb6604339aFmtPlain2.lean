/- THE PLAIN LAW: the head of an encoded string. -/
import Derived.Test.Qxb6604339aFmtEncS
namespace Go.Proofs.Qxb6604339aFmt

def ofD : List Nat → Nat
  | [] => 0
  | d :: ds => d + 256 * ofD ds
theorem ofD_digs (f : Nat) : ∀ m, m < 256 ^ f → ofD (digs f m) = m := by
  induction f with
  | zero => intro m h; simp at h; subst h; rfl
  | succ f ih =>
    intro m h
    rw [digs]
    split
    · rename_i e; subst e; rfl
    · rw [ofD, ih (m / 256) (by rw [Nat.pow_succ] at h; exact Nat.div_lt_of_lt_mul (by rw [Nat.mul_comm]; exact h))]
      omega
theorem num_rev : ∀ (ds : List Nat) (L : Nat → Nat) (s : Nat), (∀ i, i < ds.length → L (s + i) = ds.reverse.getD i 0) → num L s ds.length = ofD ds
  | [], _, _, _ => rfl
  | d :: ds, L, s, h => by
    have h1 : num L s ds.length = ofD ds := num_rev ds L s fun i hi => by
      rw [h i (by simp; omega)]
      simp [List.getD_eq_getElem?_getD, List.getElem?_append, hi]
    have h2 : L (s + ds.length) = d := by
      rw [h ds.length (by simp)]
      simp [List.getD_eq_getElem?_getD]
    rw [List.length_cons, num, h1, h2, ofD]
    omega
theorem digs_top (f : Nat) : ∀ m, 0 < m → m < 256 ^ f → 0 < (digs f m).length ∧ (digs f m).reverse.getD 0 0 ≠ 0 := by
  induction f with
  | zero => intro m h1 h2; simp at h2; omega
  | succ f ih =>
    intro m h1 h2
    rw [digs_step f m h1]
    by_cases h3 : m / 256 = 0
    · rw [h3, digs_zero]
      simp
      omega
    · obtain ⟨i1, i2⟩ := ih (m / 256) (by omega) (by rw [Nat.pow_succ] at h2; exact Nat.div_lt_of_lt_mul (by rw [Nat.mul_comm]; exact h2))
      refine ⟨by simp, ?_⟩
      rw [List.reverse_cons]
      simp only [List.getD_eq_getElem?_getD] at i2 ⊢
      rw [List.getElem?_append_left (by simpa using i1)]
      exact i2

/-- The bytes of a list, as a function. -/
def at0 (xs : List Nat) (i : Nat) : Nat := xs.getD i 0
theorem at0_lt {xs : List Nat} (h : ∀ x ∈ xs, x < 256) (i : Nat) : at0 xs i < 256 := by
  unfold at0
  rw [List.getD_eq_getElem?_getD]
  by_cases hi : i < xs.length
  · rw [List.getElem?_eq_getElem hi]; exact h _ (List.getElem_mem hi)
  · rw [List.getElem?_eq_none (by omega)]; simp
theorem at0_append (xs ys : List Nat) (i : Nat) : at0 (xs ++ ys) (xs.length + i) = at0 ys i := by
  unfold at0
  rw [List.getD_eq_getElem?_getD, List.getD_eq_getElem?_getD, List.getElem?_append_right (by omega), Nat.add_sub_cancel_left]
theorem at0_left (xs ys : List Nat) (i : Nat) (h : i < xs.length) : at0 (xs ++ ys) i = at0 xs i := by
  unfold at0
  simp [List.getD_eq_getElem?_getD, List.getElem?_append, h]
theorem at0_lst (P : Nat → Nat) (n i : Nat) (h : i < n) : at0 (lst P n) i = P i := lst_getD P n i h
theorem lst_lt {P : Nat → Nat} (h : ∀ i, P i < 256) (n : Nat) : ∀ x ∈ lst P n, x < 256 := by
  intro x hx
  simp only [lst, List.mem_map] at hx
  obtain ⟨i, _, rfl⟩ := hx
  exact h i

theorem encS_lt {P : Nat → Nat} (hP : ∀ i, P i < 256) (n : Nat) : ∀ x ∈ encS P n, x < 256 := by
  intro x hx
  unfold encS at hx
  split at hx
  · exact lst_lt hP n x hx
  · split at hx
    · rcases List.mem_cons.1 hx with rfl | hx
      · omega
      · exact lst_lt hP n x hx
    · rw [List.cons_append] at hx
      rcases List.mem_cons.1 hx with rfl | hx
      · have := digs_length 8 n; omega
      · rcases List.mem_append.1 hx with hx | hx
        · exact digs_lt 8 n x (List.mem_reverse.1 hx)
        · exact lst_lt hP n x hx

/-- The head of an encoded string: its payload, then the tail. -/
structure Head (xs : List Nat) (s n t : Nat) (P T : Nat → Nat) : Prop where
  head : headH xs.length (at0 xs) = ⟨false, s, s + n, true, true⟩
  len : xs.length = s + n + t
  pay : ∀ i, i < n → at0 xs (s + i) = P i
  tail : ∀ i, i < t → at0 xs (s + n + i) = T i

theorem head_parts (hd : List Nat) (n t : Nat) (P T : Nat → Nat) (xs : List Nat) (hx : xs = hd ++ lst P n ++ lst T t) :
    xs.length = hd.length + n + t ∧ (∀ i, i < n → at0 xs (hd.length + i) = P i) ∧ (∀ i, i < t → at0 xs (hd.length + n + i) = T i) ∧ ∀ i, i < hd.length → at0 xs i = at0 hd i := by
  subst hx
  refine ⟨by simp [lst_length]; omega, fun i hi => ?_, fun i hi => ?_, fun i hi => ?_⟩
  · rw [at0_left _ _ _ (by simp [lst_length]; omega), at0_append, at0_lst _ _ _ hi]
  · have h1 : (hd ++ lst P n).length = hd.length + n := by simp [lst_length]
    rw [← h1, at0_append, at0_lst _ _ _ hi]
  · rw [at0_left _ _ _ (by simp; omega), at0_left _ _ _ hi]

theorem encS_head (P T : Nat → Nat) (n t : Nat) (hn : n ≤ 1048576) : ∃ s, Head (encS P n ++ lst T t) s n t P T := by
  unfold encS
  by_cases h1 : n = 1 ∧ P 0 < 128
  · rw [if_pos h1]
    obtain ⟨e1, e2⟩ := h1
    obtain ⟨p1, p2, p3, _⟩ := head_parts [] n t P T (lst P n ++ lst T t) (by simp)
    refine ⟨0, ⟨?_, by simpa using p1, by simpa using p2, by simpa using p3⟩⟩
    have h0 : at0 (lst P n ++ lst T t) 0 = P 0 := by simpa using p2 0 (by omega)
    unfold headH
    rw [if_neg (by rw [p1]; omega), if_pos (by rw [h0]; exact e2)]
    simp [e1]
  · rw [if_neg h1]
    by_cases h2 : n ≤ 55
    · rw [if_pos h2]
      obtain ⟨p1, p2, p3, p4⟩ := head_parts [128 + n] n t P T ((128 + n) :: lst P n ++ lst T t) (by simp)
      refine ⟨1, ⟨?_, by simpa using p1, by simpa using p2, by simpa using p3⟩⟩
      have h0 : at0 ((128 + n) :: lst P n ++ lst T t) 0 = 128 + n := rfl
      unfold headH
      rw [if_neg (by rw [p1]; simp), h0, if_neg (by omega), if_pos (by omega), show 128 + n - 128 = n from by omega]
      unfold shortH
      rw [if_neg (by rw [p1]; simp), if_neg]
      rintro ⟨_, e1, e2⟩
      have := p2 0 (by omega)
      simp only [List.length_singleton, Nat.add_zero] at this
      exact h1 ⟨e1, by rw [← this]; exact e2⟩
    · rw [if_neg h2]
      have hlt : n < 256 ^ 8 := Nat.lt_of_le_of_lt hn (by decide)
      obtain ⟨k1, k2⟩ := digs_top 8 n (by omega) hlt
      have k3 := digs_length 8 n
      obtain ⟨ds, hds⟩ : ∃ ds, ds = digs 8 n := ⟨_, rfl⟩
      have hof : ofD ds = n := by rw [hds]; exact ofD_digs 8 n hlt
      rw [← hds] at k1 k2 k3 ⊢
      obtain ⟨p1, p2, p3, p4⟩ := head_parts ((183 + ds.length) :: ds.reverse) n t P T ((183 + ds.length) :: ds.reverse ++ lst P n ++ lst T t) (by simp)
      simp only [List.length_cons, List.length_reverse] at p1 p2 p3 p4
      refine ⟨ds.length + 1, ⟨?_, p1, p2, p3⟩⟩
      have h0 : at0 ((183 + ds.length) :: ds.reverse ++ lst P n ++ lst T t) 0 = 183 + ds.length := rfl
      have hb : ∀ i, i < ds.length → at0 ((183 + ds.length) :: ds.reverse ++ lst P n ++ lst T t) (1 + i) = ds.reverse.getD i 0 := fun i hi => by
        rw [p4 (1 + i) (by omega), show 1 + i = i + 1 from by omega]
        rfl
      have hnum := num_rev ds _ 1 hb
      rw [hof] at hnum
      unfold headH
      rw [if_neg (by rw [p1]; omega), h0, if_neg (by omega), if_neg (by omega), if_pos (by omega), show 183 + ds.length - 183 = ds.length from by omega]
      unfold longH
      have h1 := hb 0 k1
      simp only [Nat.add_zero] at h1
      rw [if_neg (by rw [p1]; omega), if_neg (by rw [h1]; exact k2), hnum, if_neg (by rw [p1]; omega), Nat.add_comm 1 ds.length]
end Go.Proofs.Qxb6604339aFmt
