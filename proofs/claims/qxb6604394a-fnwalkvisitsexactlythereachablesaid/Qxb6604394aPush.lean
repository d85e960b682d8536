/- walk's closure 'push': function 29. -/
import Derived.Test.Qxb6604394aSeen
namespace Go.Proofs.Qxb6604394a
open Go.RowKit

def psh (p : List Nat × List Nat) (v : Nat) : List Nat × List Nat := if v = 0 ∨ v = 4294967295 ∨ v ∈ p.1 then p else (p.1 ++ [v], p.2 ++ [v])

theorem Tr.owns {T : List TypeId} {R sb op : Nat} {a b : World} (h : Tr T R sb op a b) {t : TypeId} {v : Value} {n : Nat} {xs : List Value} (ho : a.ownsRow R t 1 v n xs) (ht : t ∉ T) (h1 : v.ownBlock ≠ some sb) (h2 : v.ownBlock ≠ some op) : b.ownsRow R t 1 v n xs := by
  refine ⟨ho.1, ?_⟩
  rcases ho.2 with hn | ⟨g, cap, cur, rfl, hb, hg, rest⟩
  · exact .inl hn
  · refine .inr ⟨g, cap, cur, rfl, hb, h.same g _ hg (fun e => h1 (by rw [← e]; rfl)) (fun e => h2 (by rw [← e]; rfl)) (.inr fun t' ht' c z e => ?_), rest⟩
    cases e
    exact ht ht'
theorem Tr.row {T : List TypeId} {R sb op : Nat} {a b : World} (h : Tr T R sb op a b) {g : Nat} {t : TypeId} {n : Nat} {f : Nat → Value} (hr : a.rowIs g t n f) (h1 : g ≠ sb) (h2 : g ≠ op) (h3 : g < R) : b.rowIs g t n f := by
  obtain ⟨c, hc, r⟩ := hr
  exact ⟨c, h.same g _ hc h1 h2 (.inl h3), r⟩

structure PS (w : World) (R fp sp sb op kp n : Nat) (ord stk : List Nat) : Prop where
  seen : Seen w R sp sb op n ord
  g1 : R ≤ fp
  g2 : R ≤ kp
  hf : w.heap[fp]? = some (.cells #[.func (.func 28) #[] #[.pointer (some ⟨sp, 0, none⟩), .pointer (some ⟨op, 0, none⟩)]] 66 (0, 0))
  hk : ∃ v, w.heap[kp]? = some (.cells #[v] 55 (0, 0)) ∧ w.ownsRow R 51 1 v stk.length (stk.map uv)

/-- Where only the stack's memory has turned, what 'first' looks at stands. -/
theorem Seen.stack {w w' : World} {R sp sb op kp n : Nat} {ord : List Nat} (h : Seen w R sp sb op n ord) (t : Tr [51] R kp kp w w') (hk : R ≤ kp) (h55 : ∃ v, w.heap[kp]? = some (.cells #[v] 55 (0, 0))) : Seen w' R sp sb op n ord := by
  have l1 := h.l1
  have l2 := h.l2
  have l3 := h.l3
  obtain ⟨v, ho, hown⟩ := h.ho
  obtain ⟨u, hu⟩ := h55
  have hne : v.ownBlock ≠ some kp := fun e => by
    rcases hown.2 with ⟨rfl, _⟩ | ⟨g, cap, cur, rfl, hb, hg, _⟩
    · cases e
    · cases e; rw [hg] at hu; simp at hu
  exact ⟨l1, l2, l3, t.same _ _ h.hs (by omega) (by omega) (.inl l1), t.row h.hb (by omega) (by omega) l2, ⟨v, t.same _ _ ho (by omega) (by omega) (.inl l3), t.owns hown (by decide) hne hne⟩, Nat.le_trans h.hR t.size⟩
theorem Tr.out {R sb op kp : Nat} {w w' : World} (t : Tr [51] R kp kp w w') (hk : R ≤ kp) (h55 : ∃ v, w.heap[kp]? = some (.cells #[v] 55 (0, 0))) : Tr [36, 51, 55] R sb op w w' :=
  ⟨t.os, t.tape, t.output, t.size, fun k o h1 _ _ h4 => by
    obtain ⟨u, hu⟩ := h55
    have hne : k ≠ kp := fun e => by
      subst e
      rcases h4 with h4 | h4
      · omega
      · rw [hu] at h1
        exact h4 55 (by simp) _ _ (by cases h1; rfl)
    exact t.same k o h1 hne hne (h4.imp_right fun g t ht => g t (by simp at ht; simp [ht]))⟩

theorem push_step {w w1 : World} {R sp sb op fp kp n v : Nat} {ord stk : List Nat} {u u' : Value} (h : Seen w R sp sb op n ord) (g1 : R ≤ fp) (g2 : R ≤ kp)
    (hf : w.heap[fp]? = some (.cells #[.func (.func 28) #[] #[.pointer (some ⟨sp, 0, none⟩), .pointer (some ⟨op, 0, none⟩)]] 66 (0, 0)))
    (ho : w.heap[kp]? = some (.cells #[u] 55 (0, 0))) (hown : w.ownsRow R 51 1 u stk.length (stk.map uv))
    (h1 : w1.ownsRow R 51 1 u' (stk.length + 1) (stk.map uv ++ [uv v])) (h2 : (w.alloc (.cells #[uv v] 51)).grownBy w1 u.ownBlock) :
    PS (w1.setCell ⟨kp, 0, none⟩ u') R fp sp sb op kp n ord (stk ++ [v]) ∧ Tr [36, 51, 55] R sb op w (w1.setCell ⟨kp, 0, none⟩ u') ∧ w1.heap[kp]? = some (.cells #[u] 55 (0, 0)) := by
  have hrow : ∀ g, u.ownBlock = some g → R ≤ g ∧ ∃ cs z, w.heap[g]? = some (.cells cs 51 z) := by
    intro g hg
    rcases hown.2 with ⟨rfl, _⟩ | ⟨g', cap, cur, rfl, hb, hh, _⟩
    · cases hg
    · cases hg; exact ⟨hb, _, _, hh⟩
  have t2 := (Tr.refl [51] R kp kp w).alloc (.cells #[uv v] 51)
  have t3 : Tr [51] R kp kp w w1 := t2.grown h2 (fun g hg => by
    obtain ⟨hge, cs, z, hc⟩ := hrow g hg
    exact ⟨hge, 51, by simp, cs, z, by rw [Below.heap_alloc _ _ _ (lt_of_block hc)]; exact hc⟩)
  have t4 := t3.setCell (p := ⟨kp, 0, none⟩) u' (.inl rfl)
  have hkp : w1.heap[kp]? = some (.cells #[u] 55 (0, 0)) := by
    rw [h2.block kp (by have := lt_of_block ho; simp; omega) (fun e => by obtain ⟨_, cs, z, hc⟩ := hrow kp e.symm; rw [ho] at hc; simp at hc), Below.heap_alloc _ _ _ (lt_of_block ho)]
    exact ho
  have h3 : u'.ownBlock ≠ some kp := fun e => by
    rcases h1.2 with ⟨rfl, _⟩ | ⟨g, cap, cur, rfl, _, hg, _⟩
    · cases e
    · cases e; rw [hkp] at hg; simp at hg
  have hfk : fp ≠ kp := fun e => by rw [e, ho] at hf; simp at hf
  refine ⟨⟨h.stack t4 g2 ⟨u, ho⟩, g1, g2, t4.same _ _ hf hfk hfk (.inr fun t ht c z e => by simp at ht; subst ht; simp at e), ⟨u', one_setCell hkp, ?_⟩⟩, t4.out g2 ⟨u, ho⟩, hkp⟩
  have := ownsRow_setCell_other h1 (a := ⟨kp, 0, none⟩) h3 u'
  simpa using this

set_option maxRecDepth 100000 in
set_option maxHeartbeats 1000000 in
theorem push_any (w : World) (R fp sp sb op kp n v : Nat) (ord stk : List Nat) (h : PS w R fp sp sb op kp n ord stk) (hv : v = 0 ∨ v = 4294967295 ∨ v ≤ n) (hn : n ≤ 1048576) (hl : ord.length ≤ 1048576) (hl2 : stk.length ≤ 1048576) :
    Calls Try.prog 29 #[.int .u32 (v : Nat), .pointer (some ⟨fp, 0, none⟩), .pointer (some ⟨kp, 0, none⟩)] w fun e w' => e = .returned (.tuple #[]) ∧ PS w' R fp sp sb op kp n (psh (ord, stk) v).1 (psh (ord, stk) v).2 ∧ Tr [36, 51, 55] R sb op w w' := by
  by_cases h0 : v = 0
  · have e : psh (ord, stk) v = (ord, stk) := by unfold psh; rw [if_pos (.inl h0)]
    rw [e]
    subst h0
    clear hv e
    go_enter Try.func29, Try.ntmps29
    go_wp2
    go_end0
    exact ⟨rfl, h, Tr.refl _ _ _ _ _⟩
  by_cases hT : v = 4294967295
  · have e : psh (ord, stk) v = (ord, stk) := by unfold psh; rw [if_pos (.inr (.inl hT))]
    rw [e]
    subst hT
    clear hv e h0
    go_enter Try.func29, Try.ntmps29
    go_wp2
    go_end0
    exact ⟨rfl, h, Tr.refl _ _ _ _ _⟩
  have hvn : v ≤ n := by omega
  have q0 : ((v : Int) != 0) = true := by simp; omega
  have qT : ((v : Int) != 4294967295) = true := by simp; omega
  have cf := cell_of_one h.hf
  by_cases hm : v ∈ ord
  · have e : psh (ord, stk) v = (ord, stk) := by unfold psh; rw [if_pos (.inr (.inr hm))]
    rw [e]
    have HM : Hid (v ∈ ord) := hm
    clear hv e hm
    go_enter Try.func29, Try.ntmps29
    go_wp2_with (go_at_call 28; refine (first_old w R sp sb op n v ord h.seen hvn HM.out).mono ?_; rintro e w' ⟨rfl, hw⟩; obtain rfl := hw.symm)
    go_end0
    exact ⟨rfl, h, Tr.refl _ _ _ _ _⟩
  · have e : psh (ord, stk) v = (ord ++ [v], stk ++ [v]) := by unfold psh; rw [if_neg (by simp [h0, hT, hm])]
    rw [e]
    have HM : Hid (v ∉ ord) := hm
    obtain ⟨i0, hi, hz0, hz1, hz2⟩ := info_parts info51
    have HS : Hid (Seen w R sp sb op n ord) := h.seen
    obtain ⟨u, ho, hown⟩ := h.hk
    have g1 := h.g1
    have g2 := h.g2
    have hf := h.hf
    have l2 := h.seen.l2
    have l3 := h.seen.l3
    have nksb : kp ≠ sb := by omega
    have nkop : kp ≠ op := by omega
    have nfsb : fp ≠ sb := by omega
    have nfop : fp ≠ op := by omega
    clear hv e hm h
    go_enter Try.func29, Try.ntmps29
    go_wp2_with (first
      | (go_at_call 28
         refine (first_new w R sp sb op n v ord HS.out hvn hl HM.out).mono ?_
         rintro e w1 ⟨rfl, hs1, t1⟩
         have ho1 := t1.same kp _ ho nksb nkop (.inr fun t ht c z e => by simp at ht; subst ht; simp at e)
         have hf1 := t1.same fp _ hf nfsb nfop (.inr fun t ht c z e => by simp at ht; subst ht; simp at e)
         have hown1 := t1.owns hown (by decide) (fun e => by have := (hown.lt _ e).1; omega) (fun e => by have := (hown.lt _ e).1; omega)
         have c1 := cell_of_one ho1
         have HS1 : Hid (Seen w1 R sp sb op n (ord ++ [v])) := hs1
         clear hs1)
      | (at_builtin
         refine wpList_append_own _ rfl (.tmp 15) (.tmp 17) 55 rfl R 51 i0 (.int .u32 0) 1 4 Try.underlying55 hi hz0 hz1 hz2 rfl (by decide) u _ _ rfl (hown1.alloc _) ⟨w1.heap.size, 0, none⟩ 1 1 [uv v] rfl rfl (one_newU _ _ _ _ rfl) (by simp [uv, Value.oneCell']) (by unfold maxLen; omega) (by omega) (by have := HS1.out.hR; simp; omega) ?_
         intro u' w2 ho2 hg2 _
         obtain ⟨g', cap', rfl⟩ : ∃ g' cap', u' = .slice (some ⟨g', 0, none⟩) (stk.length + 1) cap' := by
           rcases ho2.2 with ⟨_, h0⟩ | ⟨g, cap, cur, h, _⟩
           · omega
           · exact ⟨g, cap, h⟩
         obtain ⟨hst, htr, hop⟩ := push_step HS1.out g1 g2 hf1 ho1 hown1 ho2 hg2
         have c4 := cell_of_one hop
         have f4 := free_of_one hop
         clear ho2 hg2 hop))
    go_end0
    exact ⟨rfl, hst, (t1.mono (by decide)).trans htr⟩
end Go.Proofs.Qxb6604394a
