/- The search and the walk meet the same objects: no Go in sight. -/
import Derived.Test.Qxb6604394aPlain
namespace Go.Proofs.Qxb6604394a

theorem nodup_sub_len : ∀ (l1 l2 : List Nat), l1.Nodup → (∀ v ∈ l1, v ∈ l2) → l1.length ≤ l2.length := by
  intro l1
  induction l1 with
  | nil => intro l2 _ _; simp
  | cons a l ih =>
    intro l2 hn hs
    simp only [List.nodup_cons] at hn
    have ha := hs a (by simp)
    have h1 := ih (l2.erase a) hn.2 (fun v hv => by
      have hne : v ≠ a := fun e => hn.1 (by rw [← e]; exact hv)
      exact (List.mem_erase_of_ne hne).2 (hs v (by simp [hv])))
    rw [List.length_erase_of_mem ha] at h1
    have : 0 < l2.length := List.length_pos_of_mem ha
    simp only [List.length_cons]
    omega
theorem psh_fst (q s s' : List Nat) (v : Nat) : (psh (q, s) v).1 = (psh (q, s') v).1 := by
  unfold psh
  simp only
  split <;> rfl
theorem pshs_fst (vs : List Nat) : ∀ (p p' : List Nat × List Nat), p.1 = p'.1 → (pshs p vs).1 = (pshs p' vs).1 := by
  induction vs with
  | nil => exact fun p p' h => h
  | cons v vs ih =>
    intro p p' h
    refine ih (psh p v) (psh p' v) ?_
    obtain ⟨a, b⟩ := p
    obtain ⟨a', b'⟩ := p'
    simp only at h
    subst h
    exact psh_fst a b b' v
section
variable {n : Nat} {hd : Nat → List Nat} {roots ord : List Nat}
theorem Inv.swap {s s' : List Nat} (h : Inv n hd roots ord s) (hs : ∀ u, u ∈ s ↔ u ∈ s') (hl : s'.length ≤ s.length) : Inv n hd roots ord s' :=
  ⟨⟨h.good.nodup, h.good.rng, Nat.le_trans hl h.good.le⟩, h.pre, fun v hv => h.sub v ((hs v).2 hv), fun v h1 h2 => h.done v h1 (fun hh => h2 ((hs v).1 hh)), h.chain⟩
/-- One head of the search's queue. -/
theorem Inv.bfs {k v : Nat} (h : Inv n hd roots ord (ord.drop k)) (hv : ord[k]? = some v) (hok : ∀ u ∈ hd (v - 1), Ok n u) :
    Inv n hd roots (pshs (ord, []) (hd (v - 1))).1 ((pshs (ord, []) (hd (v - 1))).1.drop (k + 1)) := by
  obtain ⟨hk, hkv⟩ := List.getElem?_eq_some_iff.1 hv
  have hd1 : ord.drop k = v :: ord.drop (k + 1) := by rw [List.drop_eq_getElem_cons hk, hkv]
  have h2 : Inv n hd roots ord (ord.drop (k + 1) ++ [v]) := h.swap (fun u => by rw [hd1]; simp [or_comm]) (by rw [hd1]; simp)
  have h3 := (h2.step hok).1
  obtain ⟨new, e1, e2, _, _⟩ := pshs_shape (hd (v - 1)) (ord, ord.drop (k + 1))
  rw [pshs_fst (hd (v - 1)) (ord, []) (ord, ord.drop (k + 1)) rfl]
  have e3 : (pshs (ord, ord.drop (k + 1)) (hd (v - 1))).1.drop (k + 1) = (pshs (ord, ord.drop (k + 1)) (hd (v - 1))).2 := by
    rw [e1, e2, List.drop_append_of_le_length (by simp only; omega)]
  rw [e3]
  exact h3
theorem Inv.same {q : List Nat} (h : Inv n hd roots ord []) (h' : Inv n hd roots q []) (hn : n ≤ 1048576) : (∀ v ∈ ord, v ∈ q) ∧ ord.length = q.length ∧ ∀ i, i < roots.length → ord[i]? = q[i]? := by
  obtain ⟨r1, e1⟩ := h.pre
  obtain ⟨r2, e2⟩ := h'.pre
  have i1 := h.inside hn (l := q) (fun v hv => by rw [e2]; simp [hv]) h'.closed
  have i2 := h'.inside hn (l := ord) (fun v hv => by rw [e1]; simp [hv]) h.closed
  refine ⟨i1, Nat.le_antisymm (nodup_sub_len _ _ h.good.nodup i1) (nodup_sub_len _ _ h'.good.nodup i2), fun i hi => ?_⟩
  rw [e1, e2, List.getElem?_append_left hi, List.getElem?_append_left hi]
end
end Go.Proofs.Qxb6604394a
