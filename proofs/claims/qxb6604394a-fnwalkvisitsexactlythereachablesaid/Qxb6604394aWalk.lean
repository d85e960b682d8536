/- (*State).walk: function 27. -/
import Derived.Test.Qxb6604394aHolds
import Derived.Deep.LoopGhost
namespace Go.Proofs.Qxb6604394a
open Go.RowKit

/-- What a state holds: object i holds V i, PZ i, BZ i. -/
structure Objs (w : World) (B S ob n : Nat) (V PL BL : Nat → Nat) (PZ BZ : Nat → Nat → Nat) : Prop where
  hS : S < B
  hob : ob < B
  cs : w.cell? ⟨S, 1, none⟩ = some (.slice (some ⟨ob, 0, none⟩) n n)
  c2 : ∀ i, i < n → w.cell? ⟨ob, i * 10 + 2, none⟩ = some (.int .u32 (V i : Nat))
  c6 : ∀ i, i < n → ∃ a c, w.cell? ⟨ob, i * 10 + 6, none⟩ = some (.slice a (BL i) c) ∧ SRow w B a (BL i) (BZ i)
  c7 : ∀ i, i < n → ∃ a c, w.cell? ⟨ob, i * 10 + 7, none⟩ = some (.slice a (PL i) c) ∧ BRow w B a (PL i) (PZ i)
theorem Objs.tr {T : List TypeId} {R sb op : Nat} {w w' : World} {B S ob n : Nat} {V PL BL : Nat → Nat} {PZ BZ : Nat → Nat → Nat} (h : Objs w B S ob n V PL BL PZ BZ) (t : Tr T R sb op w w') (l : Lo B R sb op) : Objs w' B S ob n V PL BL PZ BZ :=
  ⟨h.hS, h.hob, t.lo l h.cs h.hS, fun i hi => t.lo l (h.c2 i hi) h.hob,
    fun i hi => by obtain ⟨a, c, h1, h2⟩ := h.c6 i hi; exact ⟨a, c, t.lo l h1 h.hob, h2.tr t l⟩,
    fun i hi => by obtain ⟨a, c, h1, h2⟩ := h.c7 i hi; exact ⟨a, c, t.lo l h1 h.hob, h2.tr t l⟩⟩
def held (V PL BL : Nat → Nat) (PZ BZ : Nat → Nat → Nat) (i : Nat) : List Nat := V i :: lst (PZ i) (PL i) ++ lst (BZ i) (BL i)

/-- All that the objects hold is an object, nil or True; the lists are no longer than the arguments allow. -/
structure Fit (n : Nat) (V PL BL : Nat → Nat) (PZ BZ : Nat → Nat → Nat) : Prop where
  v : ∀ i, i < n → Ok n (V i)
  p : ∀ i, i < n → ∀ j, j < PL i → Ok n (PZ i j)
  b : ∀ i, i < n → ∀ j, j < BL i → Ok n (BZ i j)
  pl : ∀ i, i < n → PL i ≤ 1048576
  bl : ∀ i, i < n → BL i ≤ 1048576
theorem Fit.held {n : Nat} {V PL BL : Nat → Nat} {PZ BZ : Nat → Nat → Nat} (h : Fit n V PL BL PZ BZ) {i : Nat} (hi : i < n) : ∀ v ∈ held V PL BL PZ BZ i, Ok n v := by
  intro v hv
  simp [Qxb6604394a.held] at hv
  rcases hv with rfl | hv | hv
  · exact h.v i hi
  · obtain ⟨j, hj, rfl⟩ := mem_lst.1 hv; exact h.p i hi j hj
  · obtain ⟨j, hj, rfl⟩ := mem_lst.1 hv; exact h.b i hi j hj

/-- What a walk leaves: a list without repetition, its roots first, closed, each later one held by an earlier one. -/
structure Inv (n : Nat) (hd : Nat → List Nat) (roots : List Nat) (ord stk : List Nat) : Prop where
  good : Good n (ord, stk)
  pre : ∃ rest, ord = roots ++ rest
  sub : ∀ v ∈ stk, v ∈ ord
  done : ∀ v ∈ ord, v ∉ stk → ∀ u ∈ hd (v - 1), u = 0 ∨ u = 4294967295 ∨ u ∈ ord
  chain : ∀ i v, roots.length ≤ i → ord[i]? = some v → ∃ j u, j < i ∧ ord[j]? = some u ∧ v ∈ hd (u - 1)

theorem psh_shape (p : List Nat × List Nat) (v : Nat) : ∃ new, (psh p v).1 = p.1 ++ new ∧ (psh p v).2 = p.2 ++ new ∧ (∀ u ∈ new, u = v) ∧ (v = 0 ∨ v = 4294967295 ∨ v ∈ (psh p v).1) := by
  unfold psh
  split
  · rename_i h
    exact ⟨[], by simp, by simp, by simp, h⟩
  · exact ⟨[v], rfl, rfl, by simp, by simp⟩
theorem pshs_shape (vs : List Nat) : ∀ p : List Nat × List Nat, ∃ new, (pshs p vs).1 = p.1 ++ new ∧ (pshs p vs).2 = p.2 ++ new ∧ (∀ u ∈ new, u ∈ vs) ∧ ∀ v ∈ vs, v = 0 ∨ v = 4294967295 ∨ v ∈ (pshs p vs).1 := by
  induction vs with
  | nil => exact fun p => ⟨[], by simp [pshs], by simp [pshs], by simp, by simp⟩
  | cons v vs ih =>
    intro p
    obtain ⟨n1, a1, a2, a3, a4⟩ := psh_shape p v
    obtain ⟨n2, b1, b2, b3, b4⟩ := ih (psh p v)
    have e : pshs p (v :: vs) = pshs (psh p v) vs := rfl
    rw [e]
    refine ⟨n1 ++ n2, by rw [b1, a1, List.append_assoc], by rw [b2, a2, List.append_assoc], fun u hu => ?_, fun u hu => ?_⟩
    · simp at hu
      rcases hu with hu | hu
      · simp [a3 u hu]
      · simp [b3 u hu]
    · simp at hu
      rcases hu with rfl | hu
      · rcases a4 with h | h | h
        · exact .inl h
        · exact .inr (.inl h)
        · exact .inr (.inr (by rw [b1]; simp [h]))
      · exact b4 u hu

theorem Inv.start {n : Nat} {hd : Nat → List Nat} {vs : List Nat} (hv : ∀ v ∈ vs, Ok n v) : Inv n hd (pshs ([], []) vs).1 (pshs ([], []) vs).1 (pshs ([], []) vs).2 := by
  obtain ⟨new, h1, h2, _, _⟩ := pshs_shape vs ([], [])
  have e : (pshs ([], []) vs).2 = (pshs ([], []) vs).1 := by rw [h1, h2]
  have hg : Good n (pshs ([], []) vs) := Good.adds ⟨by simp, by simp, by simp⟩ hv
  refine ⟨hg, ⟨[], by simp⟩, fun v hv => by rwa [e] at hv, fun v h1 h2 => absurd (by rw [e]; exact h1) h2, fun i v h1 h2 => ?_⟩
  rw [List.getElem?_eq_none (by omega)] at h2
  cases h2
theorem Inv.step {n : Nat} {hd : Nat → List Nat} {roots ord stk : List Nat} {v : Nat} (h : Inv n hd roots ord (stk ++ [v])) (hv : ∀ u ∈ hd (v - 1), Ok n u) :
    Inv n hd roots (pshs (ord, stk) (hd (v - 1))).1 (pshs (ord, stk) (hd (v - 1))).2 ∧ 2 * (n - (pshs (ord, stk) (hd (v - 1))).1.length) + (pshs (ord, stk) (hd (v - 1))).2.length < 2 * (n - ord.length) + (stk ++ [v]).length := by
  obtain ⟨new, h1, h2, h3, h4⟩ := pshs_shape (hd (v - 1)) (ord, stk)
  have hg0 : Good n (ord, stk) := ⟨h.good.nodup, h.good.rng, by have := h.good.le; simp at this ⊢; omega⟩
  have hg := hg0.adds hv
  have hl := hg.len
  have hvo : v ∈ ord := h.sub v (by simp)
  rw [h1] at h4 hl
  have e1 : pshs (ord, stk) (hd (v - 1)) = (ord ++ new, stk ++ new) := Prod.ext h1 h2
  rw [e1] at hg ⊢
  simp only at h4 hl
  refine ⟨⟨hg, ?_, ?_, ?_, ?_⟩, by simp at hl ⊢; omega⟩
  · obtain ⟨rest, hr⟩ := h.pre
    exact ⟨rest ++ new, by rw [hr, List.append_assoc]⟩
  · intro u hu
    simp at hu ⊢
    rcases hu with hu | hu
    · exact .inl (h.sub u (by simp [hu]))
    · exact .inr hu
  · intro u hu hns w hw
    simp at hu hns
    by_cases huv : u = v
    · subst huv; exact h4 w hw
    · rcases hu with hu | hu
      · rcases h.done u hu (by simp [hns.1, huv]) w hw with h5 | h5 | h5
        · exact .inl h5
        · exact .inr (.inl h5)
        · exact .inr (.inr (by simp [h5]))
      · exact absurd hu hns.2
  · intro i u hi hu
    by_cases hlt : i < ord.length
    · rw [List.getElem?_append_left hlt] at hu
      obtain ⟨j, x, hj, hx, hm⟩ := h.chain i u hi hu
      exact ⟨j, x, hj, by rw [List.getElem?_append_left (by omega)]; exact hx, hm⟩
    · rw [List.getElem?_append_right (by omega)] at hu
      obtain ⟨j, hj, hx⟩ := List.getElem_of_mem hvo
      exact ⟨j, v, by omega, by rw [List.getElem?_append_left hj, List.getElem?_eq_getElem hj, hx], h3 u (List.mem_of_getElem? hu)⟩
theorem PS.pop {w : World} {R fp sp sb op kp n : Nat} {ord stk : List Nat} {v : Nat} (h : PS w R fp sp sb op kp n ord (stk ++ [v])) :
    ∃ g cap, w.heap[kp]? = some (.cells #[.slice (some ⟨g, 0, none⟩) (stk.length + 1) cap] 55 (0, 0)) ∧ w.cell? ⟨g, stk.length, none⟩ = some (.int .u32 (v : Nat)) ∧ stk.length + 1 ≤ cap ∧
      PS (w.setCell ⟨kp, 0, none⟩ (.slice (some ⟨g, 0, none⟩) stk.length cap)) R fp sp sb op kp n ord stk ∧ Tr [36, 51, 55] R sb op w (w.setCell ⟨kp, 0, none⟩ (.slice (some ⟨g, 0, none⟩) stk.length cap)) := by
  obtain ⟨u, h1, h2⟩ := h.hk
  have hlen : (stk ++ [v]).length = stk.length + 1 := by simp
  rcases h2.2 with ⟨_, h0⟩ | ⟨g, cap, cur, rfl, hb, hg, hnc, hcm, hcs, htake⟩
  · simp at h0
  · have hc := h2.cellAt stk.length (by simp)
    rw [hlen] at h1 hnc htake
    have hgk : g ≠ kp := fun e => by rw [e, h1] at hg; simp at hg
    have t : Tr [51] R kp kp w (w.setCell ⟨kp, 0, none⟩ (.slice (some ⟨g, 0, none⟩) stk.length cap)) := (Tr.refl _ _ _ _ _).setCell _ (.inl rfl)
    have hfk : fp ≠ kp := fun e => by have := h.hf; rw [e, h1] at this; simp at this
    refine ⟨g, cap, h1, by rw [hc]; simp [uv], hnc, ⟨h.seen.stack t h.g2 ⟨_, h1⟩, h.g1, h.g2, t.same _ _ h.hf hfk hfk (.inr fun t ht c z e => by simp at ht; subst ht; simp at e), ⟨_, one_setCell h1, by simp, .inr ⟨g, cap, cur, rfl, hb, ?_, by omega, hcm, hcs, ?_⟩⟩⟩, t.out h.g2 ⟨_, h1⟩⟩
    · rw [Below.heap_setCell _ _ _ _ hgk]; exact hg
    · have h2 := congrArg (List.take stk.length) htake
      rw [List.take_take] at h2
      simp at h2
      simpa using h2
theorem PS.empty {w : World} {R fp sp sb op kp n : Nat} {ord : List Nat} (h : PS w R fp sp sb op kp n ord []) : ∃ a c, w.heap[kp]? = some (.cells #[.slice a 0 c] 55 (0, 0)) := by
  obtain ⟨u, h1, h2⟩ := h.hk
  rcases h2.2 with ⟨rfl, h0⟩ | ⟨g, cap, cur, rfl, _⟩
  · exact ⟨_, _, h1⟩
  · exact ⟨_, _, h1⟩
theorem PS.start {w : World} {sp sb op n : Nat} (h : Seen w w.heap.size sp sb op n []) :
    PS ((w.alloc (.cells #[.func (.func 28) #[] #[.pointer (some ⟨sp, 0, none⟩), .pointer (some ⟨op, 0, none⟩)]] 66)).alloc (.cells #[.slice none 0 0] 55)) w.heap.size w.heap.size sp sb op (w.heap.size + 1) n [] [] := by
  have hb : Below w.heap.size w ((w.alloc (.cells #[.func (.func 28) #[] #[.pointer (some ⟨sp, 0, none⟩), .pointer (some ⟨op, 0, none⟩)]] 66)).alloc (.cells #[.slice none 0 0] 55)) := ((Below.refl _ _).alloc (Nat.le_refl _) _).alloc (by simp) _
  have e : ∀ {k o}, w.heap[k]? = some o → ((w.alloc (.cells #[.func (.func 28) #[] #[.pointer (some ⟨sp, 0, none⟩), .pointer (some ⟨op, 0, none⟩)]] 66)).alloc (.cells #[.slice none 0 0] 55)).heap[k]? = some o := fun h1 => by rw [hb.block _ (lt_of_block h1)]; exact h1
  obtain ⟨v, h1, h2⟩ := h.ho
  obtain ⟨c, hc, r⟩ := h.hb
  refine ⟨⟨h.l1, h.l2, h.l3, e h.hs, ⟨c, e hc, r⟩, ⟨v, e h1, (h2.alloc _).alloc _⟩, by simp; omega⟩, Nat.le_refl _, by omega, ?_, ⟨_, ?_, World.ownsRow_nil _ _ _ _⟩⟩
  · rw [Below.heap_alloc _ _ _ (by simp)]; exact heap_alloc_new _ _
  · have := heap_alloc_new (w.alloc (.cells #[.func (.func 28) #[] #[.pointer (some ⟨sp, 0, none⟩), .pointer (some ⟨op, 0, none⟩)]] 66)) (.cells #[.slice none 0 0] 55)
    simpa using this

set_option maxRecDepth 100000 in
set_option maxHeartbeats 1000000 in
theorem walk_any (w : World) (B S ob n sp sb op m vc : Nat) (va : Option Addr) (V PL BL FZ : Nat → Nat) (PZ BZ : Nat → Nat → Nat) (h : Seen w w.heap.size sp sb op n []) (lo : Lo B w.heap.size sb op) (hO : Objs w B S ob n V PL BL PZ BZ) (hF : Fit n V PL BL PZ BZ) (hn : n ≤ 1048576)
    (hv : URow w va m FZ) (hvB : ∀ x, va = some x → 0 < m → x.block ≠ sb ∧ x.block ≠ op) (hm : m ≤ 1048576) (hFZ : ∀ v ∈ lst FZ m, Ok n v) :
    Calls Try.prog 27 #[.pointer (some ⟨S, 0, none⟩), .slice va m vc, .func (.func 28) #[] #[.pointer (some ⟨sp, 0, none⟩), .pointer (some ⟨op, 0, none⟩)]] w fun e w' => e = .returned (.tuple #[]) ∧
      (∃ ord, Seen w' w.heap.size sp sb op n ord ∧ Inv n (held V PL BL PZ BZ) (pshs ([], []) (lst FZ m)).1 ord []) ∧ Tr [36, 51, 55] w.heap.size sb op w w' := by
  have hmf : ∀ (fn : Fn) (first cap : Array Value) (w : World), (Instr.makeFunc fn first cap).run Try.prog w = .ok (.func fn first cap) w := fun _ _ _ _ => rfl
  have PS0 : Hid (PS ((w.alloc (.cells #[.func (.func 28) #[] #[.pointer (some ⟨sp, 0, none⟩), .pointer (some ⟨op, 0, none⟩)]] 66)).alloc (.cells #[.slice none 0 0] 55)) w.heap.size w.heap.size sp sb op (w.heap.size + 1) n (pshs ([], []) (lst FZ 0)).1 (pshs ([], []) (lst FZ 0)).2) := PS.start h
  have T0 : Hid (Tr [36, 51, 55] w.heap.size sb op w ((w.alloc (.cells #[.func (.func 28) #[] #[.pointer (some ⟨sp, 0, none⟩), .pointer (some ⟨op, 0, none⟩)]] 66)).alloc (.cells #[.slice none 0 0] 55))) := ((Tr.refl _ _ _ _ _).alloc _).alloc _
  have HO : Hid (Objs w B S ob n V PL BL PZ BZ) := hO
  have HF : Hid (Fit n V PL BL PZ BZ) := hF
  have HFZ : Hid (∀ v ∈ lst FZ m, Ok n v) := hFZ
  have HVB : Hid (∀ x, va = some x → 0 < m → x.block ≠ sb ∧ x.block ≠ op) := hvB
  have LO : Hid (Lo B w.heap.size sb op) := lo
  clear hO hF hFZ h hvB lo
  go_enter Try.func27, Try.ntmps27
  go_wp2
  go_loopw [14] (fun i wr => ∃ j : Nat, j ≤ m ∧ i = .int .i64 j ∧ PS wr w.heap.size w.heap.size sp sb op (w.heap.size + 1) n (pshs ([], []) (lst FZ j)).1 (pshs ([], []) (lst FZ j)).2 ∧ Tr [36, 51, 55] w.heap.size sb op w wr) (fun i _ => m - (intOf i).toNat)
  case atStart => exact ⟨0, by omega, rfl, PS0.out, T0.out⟩
  case round =>
    obtain ⟨j, hj, rfl, ps, tr⟩ := hrel
    by_cases hlt : j < m
    · obtain ⟨b, o, hva, hc⟩ := hv.at (by omega)
      cases hva
      have hc0 := hc j hlt
      obtain ⟨hb1, hb2⟩ := HVB.out _ rfl (by omega)
      simp only at hb1 hb2
      have cj := tr.cell hc0 (World.block_lt_of_cell? w _ hc0) hb1 hb2
      have hG : Good n (pshs ([], []) (lst FZ j)) := Good.adds ⟨by simp, by simp, by simp⟩ (fun v hv => by
        obtain ⟨i, hi, rfl⟩ := mem_lst.1 hv
        exact HFZ.out _ (mem_lst.2 ⟨i, by omega, rfl⟩))
      have m1 := hG.len
      have m2 := hG.le
      have hok : Hid (Ok n (FZ j)) := HFZ.out _ (mem_lst.2 ⟨j, hlt, rfl⟩)
      clear hc hG hc0
      go_wp2_with fail
      refine (push_any wr w.heap.size w.heap.size sp sb op (w.heap.size + 1) n (FZ j) _ _ ps hok.out hn (by omega) (by omega)).mono ?_
      rintro e w2 ⟨rfl, ps2, t2⟩
      have PS2 : Hid (PS w2 w.heap.size w.heap.size sp sb op (w.heap.size + 1) n (pshs ([], []) (lst FZ (j + 1))).1 (pshs ([], []) (lst FZ (j + 1))).2) := by
        rw [lst_succ, pshs_snoc]; exact ps2
      clear ps2 ps m1 m2
      go_wp2
      go_roundw
      case rel => exact ⟨j + 1, by omega, by go_num, PS2.out, tr.trans t2⟩
      case measure => simp [intOf]; omega
    · obtain rfl : m = j := by omega
      have HI : Hid (Inv n (held V PL BL PZ BZ) (pshs ([], []) (lst FZ m)).1 (pshs ([], []) (lst FZ m)).1 (pshs ([], []) (lst FZ m)).2) := Inv.start HFZ.out
      go_wp2
      go_loopg [10] (2 * (n - (pshs ([], []) (lst FZ m)).1.length) + (pshs ([], []) (lst FZ m)).2.length) (fun k _ wq => ∃ ord stk : List Nat, 2 * (n - ord.length) + stk.length ≤ k ∧ PS wq w.heap.size w.heap.size sp sb op (w.heap.size + 1) n ord stk ∧ Inv n (held V PL BL PZ BZ) (pshs ([], []) (lst FZ m)).1 ord stk ∧ Tr [36, 51, 55] w.heap.size sb op w wq)
      case atStart => exact ⟨_, _, Nat.le_refl _, ps, HI.out, tr⟩
      case round =>
        obtain ⟨ord, stk, hk, ps, hinv, tq⟩ := hrel
        rcases List.eq_nil_or_concat stk with rfl | ⟨s, v, hsv⟩
        · obtain ⟨a5, c5, hh⟩ := ps.empty
          have cc := cell_of_one hh
          have FIN : Hid (∃ ord, Seen wr w.heap.size sp sb op n ord ∧ Inv n (held V PL BL PZ BZ) (pshs ([], []) (lst FZ m)).1 ord []) := ⟨ord, ps.seen, hinv⟩
          clear hinv ps hh
          go_wp2
          go_end0
          exact ⟨rfl, FIN.out, tq⟩
        · rw [List.concat_eq_append] at hsv
          subst hsv
          have hvo := hinv.good.rng v (hinv.sub v (by simp))
          obtain ⟨hv1, hv2⟩ := hvo
          obtain ⟨g, cap, hh, hcv, hcap, ps2, t2⟩ := ps.pop
          have cc := cell_of_one hh
          have ff := free_of_one hh
          have O2 := (HO.out.tr (tq.trans t2) LO.out)
          have cS := O2.cs
          have hl := hinv.good.len
          have hl2 := hinv.good.le
          simp at hl hl2
          have HINV : Hid (Inv n (held V PL BL PZ BZ) (pshs ([], []) (lst FZ m)).1 ord (s ++ [v])) := hinv
          have HO2 : Hid (Objs _ B S ob n V PL BL PZ BZ) := O2
          have HK : Hid (2 * (n - ord.length) + (s ++ [v]).length ≤ gk) := hk
          clear hinv hh O2 ps hk
          go_wp2_with fail
          have hv3 : v - 1 < n := by omega
          obtain ⟨ba, bc, d6, rb⟩ := HO2.out.c6 (v - 1) hv3
          obtain ⟨pa, pc, d7, rp⟩ := HO2.out.c7 (v - 1) hv3
          have hg2 : Good n (ord, s) := ⟨HINV.out.good.nodup, HINV.out.good.rng, by simp; omega⟩
          refine (holds_any _ B w.heap.size w.heap.size sp sb op (w.heap.size + 1) n ob ((v - 1) * 10) (V (v - 1)) (PL (v - 1)) pc (BL (v - 1)) bc pa ba (PZ (v - 1)) (BZ (v - 1)) ord s ps2 hg2 LO.out hn HO2.out.hob (HF.out.v _ hv3) (HF.out.p _ hv3) (HF.out.b _ hv3) (HF.out.pl _ hv3) (HF.out.bl _ hv3) (HO2.out.c2 _ hv3) d6 d7 rp rb).mono ?_
          rintro e w3 ⟨rfl, ps3, t3⟩
          obtain ⟨hi3, hm3⟩ := HINV.out.step (HF.out.held hv3)
          have REL : Hid (∃ ord stk : List Nat, 2 * (n - ord.length) + stk.length ≤ gk - 1 ∧ PS w3 w.heap.size w.heap.size sp sb op (w.heap.size + 1) n ord stk ∧ Inv n (held V PL BL PZ BZ) (pshs ([], []) (lst FZ m)).1 ord stk ∧ Tr [36, 51, 55] w.heap.size sb op w w3) :=
            ⟨_, _, by have := HK.out; unfold held at hm3; omega, ps3, hi3, (tq.trans t2).trans t3⟩
          have hgk : 0 < gk := by have := HK.out; simp at this; omega
          clear hi3 hm3 ps3 ps2 d6 d7 rb rp hg2
          go_wp2
          go_roundg (gk - 1)
          case rel => exact REL.out
          case measure => omega
end Go.Proofs.Qxb6604394a
