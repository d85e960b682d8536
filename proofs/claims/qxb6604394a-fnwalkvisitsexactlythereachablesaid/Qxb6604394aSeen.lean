/- ZZwalkFirstSeen's closure: function 28. What the walk's own memory is, and what stands while it grows. -/
import Derived.Test.Qxb6604394aClone
namespace Go.Proofs.Qxb6604394a
open Go.RowKit

/-- Blocks stand as they stood, but for the seen row, the order's variable, and (from R on) blocks of the types T. -/
structure Tr (T : List TypeId) (R sb op : Nat) (w w' : World) : Prop where
  os : w'.os = w.os
  tape : w'.tape = w.tape
  output : w'.output = w.output
  size : w.heap.size ≤ w'.heap.size
  same : ∀ k o, w.heap[k]? = some o → k ≠ sb → k ≠ op → (k < R ∨ ∀ t ∈ T, ∀ c z, o ≠ .cells c t z) → w'.heap[k]? = some o

theorem Tr.refl (T : List TypeId) (R sb op : Nat) (w : World) : Tr T R sb op w w := ⟨rfl, rfl, rfl, Nat.le_refl _, fun _ _ h _ _ _ => h⟩
theorem Tr.trans {T : List TypeId} {R sb op : Nat} {a b c : World} (h : Tr T R sb op a b) (k : Tr T R sb op b c) : Tr T R sb op a c :=
  ⟨k.os.trans h.os, k.tape.trans h.tape, k.output.trans h.output, Nat.le_trans h.size k.size, fun i o h1 h2 h3 h4 => k.same i o (h.same i o h1 h2 h3 h4) h2 h3 h4⟩
theorem Tr.mono {T T' : List TypeId} {R sb op : Nat} {a b : World} (h : Tr T R sb op a b) (hT : ∀ t ∈ T, t ∈ T') : Tr T' R sb op a b :=
  ⟨h.os, h.tape, h.output, h.size, fun i o h1 h2 h3 h4 => h.same i o h1 h2 h3 (h4.imp_right fun g t ht => g t (hT t ht))⟩
theorem Tr.alloc {T : List TypeId} {R sb op : Nat} {a b : World} (h : Tr T R sb op a b) (o : Obj) : Tr T R sb op a (b.alloc o) :=
  ⟨h.os, h.tape, h.output, by have := h.size; simp; omega, fun i o' h1 h2 h3 h4 => by
    have := h.same i o' h1 h2 h3 h4
    rw [Below.heap_alloc _ _ _ (lt_of_block this)]
    exact this⟩
theorem Tr.grown {T : List TypeId} {R sb op : Nat} {a b c : World} (h : Tr T R sb op a b) {row : Option Nat} (hg : b.grownBy c row) (hr : ∀ g, row = some g → R ≤ g ∧ ∃ t ∈ T, ∃ cs z, b.heap[g]? = some (.cells cs t z)) : Tr T R sb op a c :=
  ⟨hg.os.trans h.os, hg.tape.trans h.tape, hg.output.trans h.output, Nat.le_trans h.size hg.size, fun i o h1 h2 h3 h4 => by
    have hb := h.same i o h1 h2 h3 h4
    rw [hg.block i (lt_of_block hb) (fun e => ?_)]
    · exact hb
    · obtain ⟨hR, t, ht, cs, z, hc⟩ := hr i e.symm
      rcases h4 with h4 | h4
      · omega
      · rw [hb] at hc
        exact h4 t ht cs z (by cases hc; rfl)⟩
theorem Tr.setCell {T : List TypeId} {R sb op : Nat} {a b : World} (h : Tr T R sb op a b) {p : Addr} (u : Value) (hp : p.block = sb ∨ p.block = op ∨ (R ≤ p.block ∧ ∃ t ∈ T, ∃ cs z, b.heap[p.block]? = some (.cells cs t z))) : Tr T R sb op a (b.setCell p u) :=
  ⟨h.os, h.tape, h.output, by have := h.size; simpa [World.setCell] using this, fun i o h1 h2 h3 h4 => by
    have hb := h.same i o h1 h2 h3 h4
    rw [Below.heap_setCell _ _ _ _ (fun e => ?_)]
    · exact hb
    · rcases hp with hp | hp | ⟨hR, t, ht, cs, z, hc⟩
      · omega
      · omega
      · rw [← e] at hR hc
        rcases h4 with h4 | h4
        · omega
        · rw [hb] at hc
          exact h4 t ht cs z (by cases hc; rfl)⟩
theorem Tr.below {T : List TypeId} {R sb op B : Nat} {a b : World} (h : Tr T R sb op a b) (h1 : B ≤ R) (h2 : B ≤ sb) (h3 : B ≤ op) (h4 : B ≤ a.heap.size) : Below B a b :=
  ⟨h.os, h.tape, h.output, h.size, fun k hk => by
    obtain ⟨o, ho⟩ : ∃ o, a.heap[k]? = some o := ⟨a.heap[k], by rw [Array.getElem?_eq_getElem (by omega)]⟩
    rw [h.same k o ho (by omega) (by omega) (.inl (by omega)), ho]⟩
theorem cell_block {w : World} {p : Addr} {v : Value} (h : w.cell? p = some v) : ∃ o, w.heap[p.block]? = some o :=
  ⟨w.heap[p.block]'(World.block_lt_of_cell? w p h), by rw [Array.getElem?_eq_getElem]⟩
theorem Tr.cell {T : List TypeId} {R sb op : Nat} {a b : World} (h : Tr T R sb op a b) {p : Addr} {v : Value} (hp : a.cell? p = some v) (h1 : p.block < R) (h2 : p.block ≠ sb) (h3 : p.block ≠ op) : b.cell? p = some v := by
  obtain ⟨o, ho⟩ := cell_block hp
  rw [World.cell?_of_block (w := a) (by rw [h.same _ o ho h2 h3 (.inl h1), ho])]
  exact hp

/-- What 'first' looks at and writes. -/
structure Seen (w : World) (R sp sb op n : Nat) (ord : List Nat) : Prop where
  l1 : sp < R
  l2 : sb < R
  l3 : op < R
  hs : w.heap[sp]? = some (.cells #[.slice (some ⟨sb, 0, none⟩) (n + 1) (n + 1)] 35 (0, 0))
  hb : w.rowIs sb 4 (n + 1) (fun i => .bool (decide (i ∈ ord)))
  ho : ∃ v, w.heap[op]? = some (.cells #[v] 30 (0, 0)) ∧ w.ownsRow R 36 1 v ord.length (ord.map uv)
  hR : R ≤ w.heap.size

theorem first_old (w : World) (R sp sb op n v : Nat) (ord : List Nat) (h : Seen w R sp sb op n ord) (hv : v ≤ n) (hm : v ∈ ord) :
    Calls Try.prog 28 #[.int .u32 (v : Nat), .pointer (some ⟨sp, 0, none⟩), .pointer (some ⟨op, 0, none⟩)] w fun e w' => e = .returned (.bool false) ∧ w' = w := by
  have c1 := cell_of_one h.hs
  have c2 : w.cell? ⟨sb, v, none⟩ = some (.bool true) := by rw [h.hb.cell (by omega)]; simp [hm]
  clear hm
  go_enter Try.func28, Try.ntmps28
  go_wp2
  go_ret
  exact ⟨rfl, rfl⟩

theorem seen_step {w w1 : World} {R sp sb op n v : Nat} {ord : List Nat} {u u' : Value} (h : Seen w R sp sb op n ord) (ho : w.heap[op]? = some (.cells #[u] 30 (0, 0))) (hown : w.ownsRow R 36 1 u ord.length (ord.map uv)) (hv : v ≤ n)
    (h1 : w1.ownsRow R 36 1 u' (ord.length + 1) (ord.map uv ++ [uv v])) (h2 : ((w.setCell ⟨sb, v, none⟩ (.bool true)).alloc (.cells #[uv v] 36)).grownBy w1 u.ownBlock) :
    Seen (w1.setCell ⟨op, 0, none⟩ u') R sp sb op n (ord ++ [v]) ∧ Tr [36] R sb op w (w1.setCell ⟨op, 0, none⟩ u') ∧ w1.heap[op]? = some (.cells #[u] 30 (0, 0)) := by
  have hrow : ∀ g, u.ownBlock = some g → R ≤ g ∧ ∃ cs z, w.heap[g]? = some (.cells cs 36 z) := by
    intro g hg
    rcases hown.2 with ⟨rfl, _⟩ | ⟨g', cap, cur, rfl, hb, hh, _⟩
    · cases hg
    · cases hg; exact ⟨hb, _, _, hh⟩
  have t1 : Tr [36] R sb op w (w.setCell ⟨sb, v, none⟩ (.bool true)) := (Tr.refl _ _ _ _ _).setCell _ (.inl rfl)
  have t2 := t1.alloc (.cells #[uv v] 36)
  have l1 := h.l1
  have l2 := h.l2
  have l3 := h.l3
  have hR := h.hR
  have t3 : Tr [36] R sb op w w1 := t2.grown h2 (fun g hg => by
    obtain ⟨hge, cs, z, hc⟩ := hrow g hg
    exact ⟨hge, 36, by simp, cs, z, by rw [Below.heap_alloc _ _ _ (by have := lt_of_block hc; simpa [World.setCell] using this), Below.heap_setCell _ _ _ _ (by simp only; omega)]; exact hc⟩)
  have t4 := t3.setCell (p := ⟨op, 0, none⟩) u' (.inr (.inl rfl))
  have hspop : sp ≠ op := fun e => by have := h.hs; rw [e, ho] at this; simp at this
  obtain ⟨cb, hcb, _⟩ := h.hb
  have hspsb : sp ≠ sb := fun e => by have := h.hs; rw [e, hcb] at this; simp at this
  have hsbop : sb ≠ op := fun e => by rw [e, ho] at hcb; simp at hcb
  have hblk : ∀ k, k < R → k ≠ sb → ((w.setCell ⟨sb, v, none⟩ (.bool true)).alloc (.cells #[uv v] 36)).heap[k]? = w.heap[k]? := fun k hk hks => by
    rw [Below.heap_alloc _ _ _ (by simp [World.setCell]; omega), Below.heap_setCell _ _ _ _ (by simpa using hks)]
  have hgb : ∀ k, k < R → w1.heap[k]? = ((w.setCell ⟨sb, v, none⟩ (.bool true)).alloc (.cells #[uv v] 36)).heap[k]? := fun k hk =>
    h2.block k (by simp [World.setCell]; omega) (fun e => by have := (hrow k e.symm).1; omega)
  have hop : w1.heap[op]? = some (.cells #[u] 30 (0, 0)) := by rw [hgb op l3, hblk op l3 hsbop.symm]; exact ho
  refine ⟨⟨h.l1, h.l2, h.l3, t4.same _ _ h.hs hspsb hspop (.inl l1), ?_, ⟨u', one_setCell (v := u) hop, ?_⟩, ?_⟩, t4, hop⟩
  · have hs1 := (h.hb.set v (.bool true)).alloc (.cells #[uv v] 36)
    have hs2 := hs1.of_block (hgb sb l2)
    have hs3 : (w1.setCell ⟨op, 0, none⟩ u').rowIs sb 4 (n + 1) _ := hs2.of_block (Below.heap_setCell _ _ _ _ (by simpa using hsbop))
    refine hs3.congr fun i _ => ?_
    by_cases e : i = v
    · subst e; simp
    · simp [e]
  · have := ownsRow_setCell_other h1 (a := ⟨op, 0, none⟩) (fun e => by have := (h1.lt op e).1; omega) u'
    simpa using this
  · have := t4.size; omega

theorem one_newU (wr : World) (v : Nat) (t : TypeId) (g : Nat) (hg : g = wr.heap.size) : ∀ j u, ([uv v] : List Value)[j]? = some u → (wr.alloc (.cells #[uv v] t)).cell? ((⟨g, 0, none⟩ : Addr).add j) = some u := by
  subst hg
  intro j u h
  match j, h with
  | 0, h =>
    simp at h
    subst h
    simp [Addr.add, go_sem]

set_option maxRecDepth 100000 in
set_option maxHeartbeats 1000000 in
theorem first_new (w : World) (R sp sb op n v : Nat) (ord : List Nat) (h : Seen w R sp sb op n ord) (hv : v ≤ n) (hl : ord.length ≤ 1048576) (hm : v ∉ ord) :
    Calls Try.prog 28 #[.int .u32 (v : Nat), .pointer (some ⟨sp, 0, none⟩), .pointer (some ⟨op, 0, none⟩)] w fun e w' => e = .returned (.bool true) ∧ Seen w' R sp sb op n (ord ++ [v]) ∧ Tr [36] R sb op w w' := by
  obtain ⟨i0, hi, hz0, hz1, hz2⟩ := info_parts info36
  obtain ⟨u, ho, hown⟩ := h.ho
  have hcb := h.hb.cell (i := v) (by omega)
  have hsbop : sb ≠ op := fun e => by obtain ⟨cb, hcb, _⟩ := h.hb; rw [e, ho] at hcb; simp at hcb
  have hspsb : sp ≠ sb := fun e => by obtain ⟨cb, hcb, _⟩ := h.hb; have := h.hs; rw [e, hcb] at this; simp at this
  have l2 := h.l2
  have c1 := cell_of_one h.hs
  have c2 : w.cell? ⟨sb, v, none⟩ = some (.bool false) := by rw [hcb]; simp [hm]
  have f2 := h.hb.frozen v
  have c3 : (w.setCell ⟨sb, v, none⟩ (.bool true)).cell? ⟨op, 0, none⟩ = some u := by
    rw [World.cell?_setCell_other (h := fun e => hsbop (by cases e; rfl))]; exact cell_of_one ho
  have hown1 := (ownsRow_setCell_other hown (a := ⟨sb, v, none⟩) (fun e => by have := (hown.lt sb e).1; omega) (.bool true)).alloc (.cells #[uv v] 36)
  have HH : Hid (Seen w R sp sb op n ord) := h
  clear hm hcb h
  go_enter Try.func28, Try.ntmps28
  go_wp2_with (
      at_builtin
      refine wpList_append_own _ rfl (.tmp 12) (.tmp 14) 30 rfl R 36 i0 (.int .u32 0) 1 4 Try.underlying30 hi hz0 hz1 hz2 rfl (by decide) u _ _ rfl hown1 ⟨w.heap.size, 0, none⟩ 1 1 [uv v] rfl rfl (one_newU _ _ _ _ (by simp [World.setCell])) (by simp [uv, Value.oneCell']) (by unfold maxLen; omega) (by omega) (by have := HH.out.hR; simp [World.setCell]; omega) ?_
      intro u' w1 ho1 hg1 _
      obtain ⟨g', cap', rfl⟩ : ∃ g' cap', u' = .slice (some ⟨g', 0, none⟩) (ord.length + 1) cap' := by
        rcases ho1.2 with ⟨_, h0⟩ | ⟨g, cap, cur, h, _⟩
        · omega
        · exact ⟨g, cap, h⟩
      obtain ⟨hst, htr, hop⟩ := seen_step HH.out ho hown hv ho1 hg1
      have c4 := cell_of_one hop
      have f4 := free_of_one hop
      clear ho1 hg1 hop)
  go_ret
  exact ⟨rfl, hst, htr⟩
end Go.Proofs.Qxb6604394a
