/- THE PLAIN LAW: no Go in sight: what an item's head says. -/
namespace Go.Proofs.Qxb6604339aFmt

/-- k bytes from s on, big end first. -/
def num (L : Nat → Nat) (s : Nat) : Nat → Nat
  | 0 => 0
  | k + 1 => num L s k * 256 + L (s + k)

structure Hd where
  list : Bool
  start : Nat
  stop : Nat
  good : Bool
  shown : Bool

def shortH (n : Nat) (L : Nat → Nat) (list : Bool) (size : Nat) : Hd :=
  if n < 1 + size then ⟨list, 0, 0, false, false⟩
  else if list = false ∧ size = 1 ∧ L 1 < 128 then ⟨false, 1, 2, false, true⟩
  else ⟨list, 1, 1 + size, true, true⟩
def longH (n : Nat) (L : Nat → Nat) (list : Bool) (k : Nat) : Hd :=
  if n < 1 + k then ⟨list, 0, 0, false, false⟩
  else if L 1 = 0 then ⟨list, 0, 0, false, false⟩
  else if num L 1 k < 56 ∨ n < 1 + k + num L 1 k then ⟨list, 0, 0, false, false⟩
  else ⟨list, 1 + k, 1 + k + num L 1 k, true, true⟩
def headH (n : Nat) (L : Nat → Nat) : Hd :=
  if n = 0 then ⟨false, 0, 0, false, false⟩
  else if L 0 < 128 then ⟨false, 0, 1, true, true⟩
  else if L 0 < 184 then shortH n L false (L 0 - 128)
  else if L 0 < 192 then longH n L false (L 0 - 183)
  else if L 0 < 248 then shortH n L true (L 0 - 192)
  else longH n L true (L 0 - 247)

/-- A head that reads well, or is shown, lies in the bytes; it takes one at least. -/
structure Hd.Fits (h : Hd) (n : Nat) : Prop where
  le : h.start ≤ h.stop
  stop : h.stop ≤ n
  pos : h.shown = true → 0 < h.stop
  sh : h.good = true → h.shown = true
theorem shortH_fits (n : Nat) (L : Nat → Nat) (l : Bool) (s : Nat) : (shortH n L l s).Fits n := by
  unfold shortH
  split
  · exact ⟨Nat.le_refl _, Nat.zero_le _, by simp, by simp⟩
  · split
    · exact ⟨by simp, by simp; omega, by simp, by simp⟩
    · exact ⟨by simp, by simp; omega, by simp; omega, by simp⟩
theorem longH_fits (n : Nat) (L : Nat → Nat) (l : Bool) (k : Nat) : (longH n L l k).Fits n := by
  unfold longH
  split
  · exact ⟨Nat.le_refl _, Nat.zero_le _, by simp, by simp⟩
  · split
    · exact ⟨Nat.le_refl _, Nat.zero_le _, by simp, by simp⟩
    · split
      · exact ⟨Nat.le_refl _, Nat.zero_le _, by simp, by simp⟩
      · exact ⟨by simp, by simp; omega, by simp; omega, by simp⟩
theorem headH_fits (n : Nat) (L : Nat → Nat) : (headH n L).Fits n := by
  unfold headH
  split
  · exact ⟨Nat.le_refl _, Nat.zero_le _, by simp, by simp⟩
  · split
    · exact ⟨by simp, by simp; omega, by simp, by simp⟩
    · split
      · exact shortH_fits _ _ _ _
      · split
        · exact longH_fits _ _ _ _
        · split
          · exact shortH_fits _ _ _ _
          · exact longH_fits _ _ _ _

theorem num_lt (L : Nat → Nat) (hL : ∀ i, L i < 256) (s : Nat) : ∀ k, num L s k < 256 ^ k
  | 0 => by simp [num]
  | k + 1 => by
    have := num_lt L hL s k
    have := hL (s + k)
    rw [num, Nat.pow_succ]
    omega
theorem num_lt_le (L : Nat → Nat) (hL : ∀ i, L i < 256) (s k : Nat) (hk : k ≤ 8) : num L s k < 18446744073709551616 := by
  have h1 := num_lt L hL s k
  have h2 : 256 ^ k ≤ 256 ^ 8 := Nat.pow_le_pow_right (by omega) hk
  have : (256 : Nat) ^ 8 = 18446744073709551616 := by decide
  omega
/-- While seven bytes or fewer are read the number leaves room for one more. -/
theorem num_lt_room (L : Nat → Nat) (hL : ∀ i, L i < 256) (s k : Nat) (hk : k ≤ 7) : num L s k < 72057594037927936 := by
  have h1 := num_lt L hL s k
  have h2 : 256 ^ k ≤ 256 ^ 7 := Nat.pow_le_pow_right (by omega) hk
  have : (256 : Nat) ^ 7 = 72057594037927936 := by decide
  omega
theorem num_shift (L : Nat → Nat) (d s : Nat) : ∀ k, num (fun i => L (d + i)) s k = num L (d + s) k
  | 0 => rfl
  | k + 1 => by
    simp only [num]
    rw [num_shift L d s k]
    congr 2
    omega
/-- A number's digits to the base 256, the small end first. -/
def digs : Nat → Nat → List Nat
  | 0, _ => []
  | f + 1, m => if m = 0 then [] else (m % 256) :: digs f (m / 256)
theorem digs_zero (f : Nat) : digs f 0 = [] := by cases f <;> simp [digs]
theorem digs_step (f m : Nat) (h : 0 < m) : digs (f + 1) m = (m % 256) :: digs f (m / 256) := by rw [digs, if_neg (by omega)]
theorem digs_length (f : Nat) : ∀ m, (digs f m).length ≤ f := by
  induction f with
  | zero => intro m; simp [digs]
  | succ f ih =>
    intro m
    rw [digs]
    split
    · simp
    · have := ih (m / 256); simp; omega
theorem digs_lt (f : Nat) : ∀ m x, x ∈ digs f m → x < 256 := by
  induction f with
  | zero => intro m x h; simp [digs] at h
  | succ f ih =>
    intro m x h
    rw [digs] at h
    split at h
    · simp at h
    · rcases List.mem_cons.1 h with rfl | h
      · omega
      · exact ih _ x h
end Go.Proofs.Qxb6604339aFmt
