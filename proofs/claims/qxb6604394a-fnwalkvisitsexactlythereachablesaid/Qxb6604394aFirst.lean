/- zzValues, ZZwalkFirstSeen: functions 26, 19. -/
import Derived.Test.Qxb6604394aWalk
namespace Go.Proofs.Qxb6604394a
open Go.RowKit

set_option maxHeartbeats 400000 in
theorem values_some (x : Addr) (n cap : Nat) (Z : Nat → Nat) (w : World) (hn : n ≤ 1048576) (h : URow w (some x) n Z) :
    Calls Try.prog 26 #[.slice (some x) n cap] w fun e w' => e = .returned (.slice (some ⟨w.heap.size, 0, none⟩) n n) ∧ Below w.heap.size w w' ∧ w'.rowIs w.heap.size 51 n (fun i => .int .u32 (Z i : Nat)) := by
  have q := nil30
  have hmk := run_make_row' (P := Try.prog) 55 51 (.int .u32 0) 4 Try.underlying55 info51 rfl .i64 .i64 n (by omega) (by omega)
  go_enter Try.func26, Try.ntmps26
  go_wp2
  go_loopw [13] (fun i wr => ∃ k : Nat, k ≤ n ∧ i = .int .i64 k ∧ Below w.heap.size w wr ∧ wr.rowIs w.heap.size 51 n (fun i => if i < k then .int .u32 (Z i : Nat) else .int .u32 0)) (fun i _ => n - (intOf i).toNat)
  case atStart => exact ⟨0, Nat.zero_le _, rfl, (Below.refl _ _).alloc (Nat.le_refl _) _, (World.rowIs_made w (.int .u32 0) n 51).congr (by simp)⟩
  case round =>
    obtain ⟨k, hk, rfl, hb, hr⟩ := hrel
    by_cases hlt : k < n
    · obtain ⟨b, o, hx, hc⟩ := h.at (by omega)
      cases hx
      have h1 := cell_below hb (hc k hlt)
      have h2 := hr.cell hlt
      have h3 := hr.frozen k
      have hs := row_step (f := fun i => .int .u32 (Z i : Nat)) hr (.int .u32 (Z k : Nat)) (fun i => .int .u32 (Z i : Nat)) rfl (fun _ _ => rfl)
      clear hc
      go_wp2
      go_roundw
      case rel => exact ⟨k + 1, by omega, by go_num, hb.setCell (Nat.le_refl _) _, hs⟩
      case measure => simp [intOf]; omega
    · go_wp2
      go_ret
      obtain rfl : k = n := by omega
      exact ⟨rfl, hb, row_done hr⟩
theorem values_nil (n cap : Nat) (w : World) : Calls Try.prog 26 #[.slice none n cap] w fun e w' => e = .returned (.slice none 0 0) ∧ w' = w := by
  have q := nil30
  go_enter Try.func26, Try.ntmps26
  go_wp2
  go_ret
  exact ⟨rfl, rfl⟩
theorem values_any (a : Option Addr) (n cap : Nat) (Z : Nat → Nat) (w : World) (hn : n ≤ 1048576) (h : URow w a n Z) :
    Calls Try.prog 26 #[.slice a n cap] w fun e w' => ∃ a' c', e = .returned (.slice a' n c') ∧ Below w.heap.size w w' ∧ URow w' a' n Z ∧ ∀ x, a' = some x → w.heap.size ≤ x.block := by
  cases a with
  | none =>
    obtain rfl := h.1 rfl
    refine (values_nil 0 cap w).mono ?_
    rintro e w' ⟨rfl, rfl⟩
    exact ⟨none, 0, rfl, Below.refl _ _, h, by simp⟩
  | some x =>
    refine (values_some x n cap Z w hn h).mono ?_
    rintro e w' ⟨rfl, hb, hr⟩
    exact ⟨_, _, rfl, hb, URow.of_row hr, fun x hx => by cases hx; exact Nat.le_refl _⟩

theorem Objs.below {w w' : World} {B S ob n : Nat} {V PL BL : Nat → Nat} {PZ BZ : Nat → Nat → Nat} (h : Objs w B S ob n V PL BL PZ BZ) (hb : Below B w w') : Objs w' B S ob n V PL BL PZ BZ := by
  have e : ∀ {p : Addr} {v : Value}, w.cell? p = some v → p.block < B → w'.cell? p = some v := fun h1 h2 => (hb.cell h2).trans h1
  refine ⟨h.hS, h.hob, e h.cs h.hS, fun i hi => e (h.c2 i hi) h.hob, fun i hi => ?_, fun i hi => ?_⟩
  · obtain ⟨a, c, h1, h2⟩ := h.c6 i hi
    refine ⟨a, c, e h1 h.hob, h2.1, fun x hx j hj => ?_⟩
    obtain ⟨a1, a2, a3, a4, a5⟩ := h2.2 x hx j hj
    exact ⟨e a1 (by rw [add_block]; exact a5), e a2 (by rw [add_block]; exact a5), e a3 (by rw [add_block]; exact a5), e a4 (by rw [add_block]; exact a5), a5⟩
  · obtain ⟨a, c, h1, h2⟩ := h.c7 i hi
    exact ⟨a, c, e h1 h.hob, h2.1, fun x hx j hj => ⟨e (h2.2 x hx j hj).1 (by rw [add_block]; exact (h2.2 x hx j hj).2), (h2.2 x hx j hj).2⟩⟩

theorem Seen.start {w1 w3 : World} {sp sb op n : Nat} (h1 : w1.rowIs sb 4 (n + 1) (fun _ => .bool false)) (h2 : w1.heap[sp]? = some (.cells #[.slice (some ⟨sb, 0, none⟩) (n + 1) (n + 1)] 35 (0, 0))) (h3 : w1.heap[op]? = some (.cells #[.slice none 0 0] 30 (0, 0)))
    (hb : Below w1.heap.size w1 w3) : Seen w3 w3.heap.size sp sb op n [] := by
  have hs := hb.size
  have e : ∀ {k o}, w1.heap[k]? = some o → w3.heap[k]? = some o := fun h1 => by rw [hb.block _ (lt_of_block h1)]; exact h1
  have l1 := lt_of_block h2
  have l2 := h1.lt
  have l3 := lt_of_block h3
  obtain ⟨c, hc, hz, hr⟩ := h1
  exact ⟨by omega, by omega, by omega, e h2, ⟨c, e hc, hz, fun i hi => by rw [hr i hi]; simp⟩, ⟨_, e h3, World.ownsRow_nil _ _ _ _⟩, Nat.le_refl _⟩

theorem own_urow {w : World} {R : Nat} {v : Value} {ord : List Nat} {t : TypeId} (h : w.ownsRow R t 1 v ord.length (ord.map uv)) : ∃ a c, v = .slice a ord.length c ∧ URow w a ord.length (fun i => ord.getD i 0) := by
  rcases h.2 with ⟨rfl, h0⟩ | ⟨g, cap, cur, rfl, _⟩
  · exact ⟨none, 0, by rw [h0], fun _ => h0, by simp⟩
  · refine ⟨_, cap, rfl, by simp, fun x hx i hi => ?_⟩
    cases hx
    rw [add_lit, Nat.zero_add, h.cellAt i (by simpa using hi)]
    simp [uv, hi, List.getD_eq_getElem?_getD]
theorem first_mem (w : World) (n : Nat) : ∃ w1, w1 = ((w.alloc (.cells (madeCells #[.bool false] (n + 1)) 4)).alloc (.cells #[.slice (some ⟨w.heap.size, 0, none⟩) (n + 1) (n + 1)] 35)).alloc (.cells #[.slice none 0 0] 30) ∧
    Below w.heap.size w w1 ∧ w1.rowIs w.heap.size 4 (n + 1) (fun _ => .bool false) ∧ w1.heap[w.heap.size + 1]? = some (.cells #[.slice (some ⟨w.heap.size, 0, none⟩) (n + 1) (n + 1)] 35 (0, 0)) ∧ w1.heap[w.heap.size + 1 + 1]? = some (.cells #[.slice none 0 0] 30 (0, 0)) ∧ w1.heap.size = w.heap.size + 3 := by
  refine ⟨_, rfl, (((Below.refl _ _).alloc (Nat.le_refl _) _).alloc (by simp) _).alloc (by simp; omega) _, ((World.rowIs_made w (.bool false) (n + 1) 4).alloc _).alloc _, ?_, ?_, by simp⟩
  · rw [Below.heap_alloc _ _ _ (by simp)]
    have := heap_alloc_new (w.alloc (.cells (madeCells #[.bool false] (n + 1)) 4)) (.cells #[.slice (some ⟨w.heap.size, 0, none⟩) (n + 1) (n + 1)] 35)
    simpa using this
  · have := heap_alloc_new ((w.alloc (.cells (madeCells #[.bool false] (n + 1)) 4)).alloc (.cells #[.slice (some ⟨w.heap.size, 0, none⟩) (n + 1) (n + 1)] 35)) (.cells #[.slice none 0 0] 30)
    simpa using this

set_option maxRecDepth 100000 in
set_option maxHeartbeats 1000000 in
theorem first_any (w : World) (B S ob n m fc : Nat) (fa : Option Addr) (V PL BL FZ : Nat → Nat) (PZ BZ : Nat → Nat → Nat) (hB : B ≤ w.heap.size) (hO : Objs w B S ob n V PL BL PZ BZ) (hF : Fit n V PL BL PZ BZ) (hn : n ≤ 1048576)
    (hv : URow w fa m FZ) (hm : m ≤ 1048576) (hFZ : ∀ v ∈ lst FZ m, Ok n v) :
    Calls Try.prog 19 #[.pointer (some ⟨S, 0, none⟩), .slice fa m fc] w fun e w' => ∃ a c ord, e = .returned (.slice a ord.length c) ∧ URow w' a ord.length (fun i => ord.getD i 0) ∧ Inv n (held V PL BL PZ BZ) (pshs ([], []) (lst FZ m)).1 ord [] ∧ Below w.heap.size w w' := by
  have hmf : ∀ (fn : Fn) (first cap : Array Value) (w : World), (Instr.makeFunc fn first cap).run Try.prog w = .ok (.func fn first cap) w := fun _ _ _ _ => rfl
  have hmk : ∀ w : World, (Instr.makeSlice 35 (.int .i64 ((n : Int) + 1)) (.int .i64 ((n : Int) + 1))).run Try.prog w = .ok (.slice (some ⟨w.heap.size, 0, none⟩) (n + 1) (n + 1)) (w.alloc (.cells (madeCells #[.bool false] (n + 1)) 4)) := fun w => by
    have := run_make_row' (P := Try.prog) 35 4 (.bool false) 1 Try.underlying35 info4 rfl .i64 .i64 (n + 1) (by omega) (by omega) w
    simpa using this
  have cS := hO.cs
  have HO : Hid (Objs w B S ob n V PL BL PZ BZ) := hO
  have HF : Hid (Fit n V PL BL PZ BZ) := hF
  have HFZ : Hid (∀ v ∈ lst FZ m, Ok n v) := hFZ
  clear hO hF hFZ
  go_enter Try.func19, Try.ntmps19
  go_wp2_with fail
  obtain ⟨w1, hw1, hb1, h1, h2, h3, hsz⟩ := first_mem w n
  rw [← hw1]
  have HSZ : Hid (w1.heap.size = w.heap.size + 3) := hsz
  clear hw1 hsz
  refine (values_any fa m fc FZ w1 hm (hv.below hb1)).mono ?_
  rintro e w3 ⟨va, vc, rfl, hb3, rv, hvb⟩
  have HS : Hid (Seen w3 w3.heap.size (w.heap.size + 1) w.heap.size (w.heap.size + 1 + 1) n []) := Seen.start h1 h2 h3 hb3
  have hb4 : Below w.heap.size w w3 := bstep hb1 hb3
  have HVB : Hid (∀ x, va = some x → w1.heap.size ≤ x.block) := hvb
  have hs3 : Hid (w1.heap.size ≤ w3.heap.size) := hb3.size
  clear h1 h2 h3 hb1 hvb hb3
  go_wp2_with fail
  have k1 := HSZ.out
  have k2 := hs3.out
  refine (walk_any w3 B S ob n (w.heap.size + 1) w.heap.size (w.heap.size + 1 + 1) m vc va V PL BL FZ PZ BZ HS.out ⟨by omega, by omega, by omega⟩ (HO.out.below (hb4.mono hB)) HF.out hn rv (fun x hx _ => ⟨by have := HVB.out x hx; omega, by have := HVB.out x hx; omega⟩) hm HFZ.out).mono ?_
  rintro e w4 ⟨rfl, ⟨ord, hsn, hinv⟩, t4⟩
  have hb5 : Below w.heap.size w w4 := hb4.trans (t4.below (by omega) (by omega) (by omega) (by omega))
  obtain ⟨v, ho, hown⟩ := hsn.ho
  obtain ⟨a6, c6, rfl, hr6⟩ := own_urow hown
  have cc := cell_of_one ho
  have HI : Hid (Inv n (held V PL BL PZ BZ) (pshs ([], []) (lst FZ m)).1 ord []) := hinv
  clear k1 k2 hinv ho hown hsn
  go_wp2
  go_ret
  exact ⟨a6, c6, ord, rfl, hr6, HI.out, hb5⟩
end Go.Proofs.Qxb6604394a
