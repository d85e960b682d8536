/- Bytes that are appended to a slice of the call's own. -/
import Derived.Test.Qxb6604339aFmtSl
namespace Go.Proofs.Qxb6604339aFmt
open Go.RowKit

def bv (b : Nat) : Value := .int .u8 (b : Nat)
def lst (P : Nat → Nat) (n : Nat) : List Nat := (List.range n).map P
theorem lst_succ (P : Nat → Nat) (n : Nat) : lst P (n + 1) = lst P n ++ [P n] := by simp [lst, List.range_succ]
theorem lst_length (P : Nat → Nat) (n : Nat) : (lst P n).length = n := by simp [lst]
theorem lst_getD (P : Nat → Nat) (n i : Nat) (h : i < n) : (lst P n).getD i 0 = P i := by
  simp [lst, List.getD_eq_getElem?_getD, h]

/-- The slice at the head of block g, m of C cells used: the bytes xs. Below g nothing has turned. -/
structure St (w wr : World) (g C m : Nat) (xs : List Nat) : Prop where
  own : wr.ownsRow g 5 1 (.slice (some ⟨g, 0, none⟩) m C) m (xs.map bv)
  bel : Below g w wr
  lt : g < wr.heap.size

theorem St.length {w wr : World} {g C m : Nat} {xs : List Nat} (h : St w wr g C m xs) : xs.length = m := by
  have := h.own.1
  simpa using this
theorem St.le {w wr : World} {g C m : Nat} {xs : List Nat} (h : St w wr g C m xs) : m ≤ C := by
  rcases h.own.2 with ⟨h', _⟩ | ⟨g', cap', cur, h', _, _, h3, _⟩
  · cases h'
  · cases h'; exact h3
theorem St.push {w wr w1 : World} {g C m : Nat} {xs : List Nat} {o : Obj} (h : St w wr g C m xs) {v : Nat} (h1 : w1.ownsRow g 5 1 (.slice (some ⟨g, 0, none⟩) (m + 1) C) (m + 1) (xs.map bv ++ [bv v])) (h2 : (wr.alloc o).grownBy w1 (some g)) :
    St w w1 g C (m + 1) (xs ++ [v]) := by
  have hl := h.lt
  have hs := h2.size
  simp at hs
  refine ⟨by simpa using h1, ?_, by omega⟩
  exact (h.bel.alloc (Nat.le_of_lt h.lt) o).grown h2 (by simp; omega) (fun k hk => by cases hk; exact Nat.le_refl _)
/-- Another row that stands above g stays. -/
theorem row_kept {wr w1 : World} {g D : Nat} {t : TypeId} {n : Nat} {f : Nat → Value} {o : Obj} (h : wr.rowIs D t n f) (hD : D ≠ g) (h2 : (wr.alloc o).grownBy w1 (some g)) : w1.rowIs D t n f :=
  (h.alloc o).of_block (h2.block D (by have := h.lt; simp; omega) (fun e => hD (by cases e; rfl)))
theorem St.setOther {w wr : World} {g C m : Nat} {xs : List Nat} (h : St w wr g C m xs) {D o : Nat} (hD : g < D) (u : Value) : St w (wr.setCell ⟨D, o, none⟩ u) g C m xs := by
  have hb : (wr.setCell ⟨D, o, none⟩ u).heap[g]? = wr.heap[g]? := Below.heap_setCell _ _ _ _ (by simp only; omega)
  refine ⟨⟨h.own.1, ?_⟩, h.bel.setCell (p := ⟨D, o, none⟩) (by simp only; omega) _, by simpa [World.setCell] using h.lt⟩
  rcases h.own.2 with h' | ⟨g', cap', cur, h', h1, h2, h3⟩
  · exact .inl h'
  · cases h'
    exact .inr ⟨g, C, cur, rfl, h1, hb.trans h2, h3⟩
theorem St.allocO {w wr : World} {g C m : Nat} {xs : List Nat} (h : St w wr g C m xs) (o : Obj) : St w (wr.alloc o) g C m xs :=
  ⟨h.own.alloc o, h.bel.alloc (Nat.le_of_lt h.lt) o, by have := h.lt; simp; omega⟩
theorem St.row {w wr : World} {g C m : Nat} {xs : List Nat} (h : St w wr g C m xs) {R : Nat} (hR : g < R) : BR wr R (some ⟨g, 0, none⟩) m (fun i => xs.getD i 0) := by
  refine ⟨by simp, fun x hx i hi => ?_⟩
  cases hx
  have := h.own.cellAt i (by simpa using hi)
  rw [add_lit, Nat.zero_add, this]
  have hl := h.length
  refine ⟨?_, hR⟩
  simp [bv, List.getD_eq_getElem?_getD, List.getElem?_eq_getElem (show i < xs.length by omega)]
theorem St.start (w : World) (C : Nat) {w1 : World} (h1 : w1.ownsRow w.heap.size 5 1 (.slice (some ⟨w.heap.size, 0, none⟩) 0 C) 0 []) (h2 : w.grownBy w1 none) : St w w1 w.heap.size C 0 [] := by
  refine ⟨h1, ⟨h2.os, h2.tape, h2.output, h2.size, fun k hk => h2.block k hk (by simp)⟩, ?_⟩
  exact (h1.lt w.heap.size rfl).2
theorem one_new (wr : World) (v : Nat) : ∀ j u, ([bv v] : List Value)[j]? = some u → (wr.alloc (.cells #[bv v] 5)).cell? ((⟨wr.heap.size, 0, none⟩ : Addr).add j) = some u := by
  intro j u h
  match j, h with
  | 0, h =>
    simp at h
    subst h
    simp [Addr.add, go_sem]
theorem one_newV (wr : World) (v : Value) : ∀ j u, ([v] : List Value)[j]? = some u → (wr.alloc (.cells #[v] 5)).cell? ((⟨wr.heap.size, 0, none⟩ : Addr).add j) = some u := by
  intro j u h
  match j, h with
  | 0, h =>
    simp at h
    subst h
    simp [Addr.add, go_sem]
end Go.Proofs.Qxb6604339aFmt
