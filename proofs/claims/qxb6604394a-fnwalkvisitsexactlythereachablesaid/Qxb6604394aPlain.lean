/- What two walks have in common: no Go in sight. -/
import Derived.Test.Qxb6604394aWalk
namespace Go.Proofs.Qxb6604394a

theorem lst_getD (l : List Nat) : lst (fun i => l.getD i 0) l.length = l := by
  apply List.ext_getElem?
  intro i
  by_cases h : i < l.length
  · simp [lst, h, List.getD_eq_getElem?_getD]
  · simp [lst, h]
theorem pshs_fresh (vs : List Nat) : ∀ p : List Nat × List Nat, vs.Nodup → (∀ v ∈ vs, v ≠ 0 ∧ v ≠ 4294967295 ∧ v ∉ p.1) → (pshs p vs).1 = p.1 ++ vs := by
  induction vs with
  | nil => intro p _ _; simp [pshs]
  | cons v vs ih =>
    intro p hn hv
    obtain ⟨h0, hT, hm⟩ := hv v (by simp)
    have e : psh p v = (p.1 ++ [v], p.2 ++ [v]) := by unfold psh; rw [if_neg (by simp [h0, hT, hm])]
    have e2 : pshs p (v :: vs) = pshs (psh p v) vs := rfl
    simp only [List.nodup_cons] at hn
    rw [e2, e, ih _ hn.2 (fun u hu => ?_)]
    · simp
    · obtain ⟨a, b, c⟩ := hv u (by simp [hu])
      refine ⟨a, b, ?_⟩
      simp [c]
      rintro rfl
      exact hn.1 hu
section
variable {n : Nat} {hd : Nat → List Nat} {fr ord : List Nat}
theorem Inv.from (h : Inv n hd (pshs ([], []) fr).1 ord []) : ∀ v ∈ fr, v = 0 ∨ v = 4294967295 ∨ v ∈ ord := by
  intro v hv
  obtain ⟨_, _, _, _, h4⟩ := pshs_shape fr ([], [])
  obtain ⟨rest, hr⟩ := h.pre
  rcases h4 v hv with h | h | h
  · exact .inl h
  · exact .inr (.inl h)
  · exact .inr (.inr (by rw [hr]; simp [h]))
theorem Inv.closed {roots : List Nat} (h : Inv n hd roots ord []) : ∀ v ∈ ord, ∀ u ∈ hd (v - 1), u = 0 ∨ u = 4294967295 ∨ u ∈ ord := fun v hv => h.done v hv (by simp)
/-- What lies in a closed list that holds the roots holds the whole walk. -/
theorem Inv.inside {n' : Nat} {roots ord' l : List Nat} (h : Inv n' hd roots ord' []) (hn : n' ≤ 1048576) (hr : ∀ v ∈ roots, v ∈ l) (hc : ∀ v ∈ l, ∀ u ∈ hd (v - 1), u = 0 ∨ u = 4294967295 ∨ u ∈ l) : ∀ v ∈ ord', v ∈ l := by
  have key : ∀ (i v : Nat), ord'[i]? = some v → v ∈ l := by
    intro i
    induction i using Nat.strongRecOn with
    | ind i ih =>
      intro v hv
      by_cases hi : i < roots.length
      · obtain ⟨rest, he⟩ := h.pre
        rw [he, List.getElem?_append_left hi] at hv
        exact hr v (List.mem_of_getElem? hv)
      · obtain ⟨j, u, hj, hu, hm⟩ := h.chain i v (by omega) hv
        have hvr := h.good.rng v (List.mem_of_getElem? hv)
        rcases hc u (ih j hj u hu) v hm with h | h | h
        · omega
        · omega
        · exact h
  intro v hv
  obtain ⟨i, hi⟩ := List.getElem?_of_mem hv
  exact key i v hi
theorem Inv.idem {roots ord' : List Nat} (h : Inv n hd roots ord []) (h' : Inv n hd (pshs ([], []) ord).1 ord' []) (hn : n ≤ 1048576) : ord' = ord := by
  have hs : (pshs ([], []) ord).1 = ord := by
    rw [pshs_fresh ord ([], []) h.good.nodup (fun v hv => by have := h.good.rng v hv; exact ⟨by omega, by omega, by simp⟩)]
    rfl
  rw [hs] at h'
  obtain ⟨rest, hr⟩ := h'.pre
  have hin := h'.inside hn (fun v hv => hv) h.closed
  cases rest with
  | nil => simpa using hr
  | cons v rest =>
    have hv : v ∈ ord := hin v (by rw [hr]; simp)
    have hnd := h'.good.nodup
    simp only at hnd
    rw [hr, List.nodup_append] at hnd
    exact absurd rfl (hnd.2.2 v hv v (by simp))
end
end Go.Proofs.Qxb6604394a
