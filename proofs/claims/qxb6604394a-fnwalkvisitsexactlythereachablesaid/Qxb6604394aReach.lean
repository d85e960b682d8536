/- zzReachAdd, zzNoteHolder: functions 17, 20. -/
import Derived.Test.Qxb6604394aHolds
namespace Go.Proofs.Qxb6604394a
open Go.RowKit

/-- The search's own memory: the marks, and the queue. -/
structure RQ (w : World) (R rb n : Nat) (v : Value) (q : List Nat) : Prop where
  l : rb < R
  hb : w.rowIs rb 4 (n + 1) (fun i => .bool (decide (i ∈ q)))
  ho : w.ownsRow R 36 1 v q.length (q.map uv)
  hR : R ≤ w.heap.size
theorem RQ.shape {w : World} {R rb n : Nat} {v : Value} {q : List Nat} (h : RQ w R rb n v q) : ∃ a c, v = .slice a q.length c := by
  rcases h.ho.2 with ⟨rfl, h0⟩ | ⟨g, cap, cur, rfl, _⟩
  · exact ⟨none, 0, by rw [h0]⟩
  · exact ⟨_, _, rfl⟩

theorem reach_step {w w1 : World} {R rb n v : Nat} {q : List Nat} {u u' : Value} (h : RQ w R rb n u q)
    (h1 : w1.ownsRow R 36 1 u' (q.length + 1) (q.map uv ++ [uv v])) (h2 : ((w.setCell ⟨rb, v, none⟩ (.bool true)).alloc (.cells #[uv v] 36)).grownBy w1 u.ownBlock) :
    RQ w1 R rb n u' (q ++ [v]) ∧ Below rb w w1 := by
  have l := h.l
  have hR := h.hR
  have hrow : ∀ g, u.ownBlock = some g → R ≤ g := fun g hg => (h.ho.lt g hg).1
  have hs1 := (h.hb.set v (.bool true)).alloc (.cells #[uv v] 36)
  have hgb : w1.heap[rb]? = ((w.setCell ⟨rb, v, none⟩ (.bool true)).alloc (.cells #[uv v] 36)).heap[rb]? :=
    h2.block rb (by simp [World.setCell]; omega) (fun e => by have := hrow rb e.symm; omega)
  have hs2 := hs1.of_block hgb
  have hb : Below rb w w1 := (((Below.refl rb w).setCell (p := ⟨rb, v, none⟩) (Nat.le_refl _) _).alloc (by simp [World.setCell]; omega) _).grown h2 (by simp [World.setCell]; omega) (fun k hk => by have := hrow k hk; omega)
  refine ⟨⟨l, ?_, by simpa using h1, Nat.le_trans hR hb.size⟩, hb⟩
  refine hs2.congr fun i _ => ?_
  by_cases e : i = v
  · subst e; simp
  · simp [e]

set_option maxRecDepth 100000 in
set_option maxHeartbeats 1000000 in
theorem reach_any (w : World) (R rb n v c : Nat) (a : Option Addr) (q : List Nat) (h : RQ w R rb n (.slice a q.length c) q) (hv : Ok n v) (hn : n ≤ 1048576) (hl : q.length ≤ 1048576) :
    Calls Try.prog 17 #[.slice (some ⟨rb, 0, none⟩) (n + 1) (n + 1), .slice a q.length c, .int .u32 (v : Nat)] w fun e w' => ∃ a' c', e = .returned (.slice a' (psh (q, []) v).1.length c') ∧ RQ w' R rb n (.slice a' (psh (q, []) v).1.length c') (psh (q, []) v).1 ∧ Below rb w w' := by
  unfold Ok at hv
  by_cases h0 : v = 0
  · have e : psh (q, []) v = (q, []) := by unfold psh; rw [if_pos (.inl h0)]
    rw [e]
    subst h0
    clear hv e
    go_enter Try.func17, Try.ntmps17
    go_wp2
    go_ret
    exact ⟨_, _, rfl, h, Below.refl _ _⟩
  by_cases hT : v = 4294967295
  · have e : psh (q, []) v = (q, []) := by unfold psh; rw [if_pos (.inr (.inl hT))]
    rw [e]
    subst hT
    clear hv e h0
    go_enter Try.func17, Try.ntmps17
    go_wp2
    go_ret
    exact ⟨_, _, rfl, h, Below.refl _ _⟩
  have hvn : v ≤ n := by omega
  have q0 : ((v : Int) == 0) = false := by simp; omega
  have qT : ((v : Int) == 4294967295) = false := by simp; omega
  have hcb := h.hb.cell (i := v) (by omega)
  have f2 := h.hb.frozen v
  by_cases hm : v ∈ q
  · have e : psh (q, []) v = (q, []) := by unfold psh; rw [if_pos (.inr (.inr hm))]
    rw [e]
    rw [decide_eq_true hm] at hcb
    clear hv e hm
    go_enter Try.func17, Try.ntmps17
    go_wp2
    go_ret
    exact ⟨_, _, rfl, h, Below.refl _ _⟩
  · have e : psh (q, []) v = (q ++ [v], [v]) := by unfold psh; rw [if_neg (by simp [h0, hT, hm])]; rfl
    rw [e]
    rw [decide_eq_false hm] at hcb
    obtain ⟨i0, hi, hz0, hz1, hz2⟩ := info_parts info36
    have l := h.l
    have hown1 := (ownsRow_setCell_other h.ho (a := ⟨rb, v, none⟩) (fun e => by have := (h.ho.lt rb e).1; omega) (.bool true)).alloc (.cells #[uv v] 36)
    have HH : Hid (RQ w R rb n (.slice a q.length c) q) := h
    have HL : Hid ((q ++ [v]).length = q.length + 1) := by show _ = _; simp
    clear hv e hm h
    go_enter Try.func17, Try.ntmps17
    go_wp2_with (
        at_builtin
        refine wpList_append_own _ rfl (.tmp 23) (.tmp 25) 30 rfl R 36 i0 (.int .u32 0) 1 4 Try.underlying30 hi hz0 hz1 hz2 rfl (by decide) (.slice a q.length c) _ _ rfl hown1 ⟨w.heap.size, 0, none⟩ 1 1 [uv v] rfl rfl (one_newU _ _ _ _ (by simp [World.setCell])) (by simp [uv, Value.oneCell']) (by unfold maxLen; omega) (by omega) (by have := HH.out.hR; simp [World.setCell]; omega) ?_
        intro u' w1 ho1 hg1 _
        obtain ⟨g', cap', rfl⟩ : ∃ g' cap', u' = .slice (some ⟨g', 0, none⟩) (q.length + 1) cap' := by
          rcases ho1.2 with ⟨_, h0⟩ | ⟨g, cap, cur, h, _⟩
          · omega
          · exact ⟨g, cap, h⟩
        obtain ⟨hst, htr⟩ := reach_step HH.out ho1 hg1
        clear ho1 hg1)
    go_ret
    exact ⟨some ⟨g', 0, none⟩, cap', by rw [HL.out]; rfl, by rw [HL.out]; exact hst, htr⟩

/-- What a note leaves: what was noted stays and does not rise; the new one is noted, at no later place. -/
structure Noted (g g' : Nat → Nat) (v pos : Nat) : Prop where
  old : ∀ x, 1 ≤ g x → 1 ≤ g' x ∧ g' x ≤ g x
  new : v ≠ 0 → v ≠ 4294967295 → 1 ≤ g' v ∧ g' v ≤ pos
  le : ∀ x, g' x ≤ g x ∨ g' x ≤ pos
set_option maxRecDepth 100000 in
set_option maxHeartbeats 1000000 in
theorem note_any (w : World) (hb n v pos : Nat) (g : Nat → Nat) (hr : w.rowIs hb 3 (n + 1) (fun i => .int .i64 (g i : Nat))) (hv : Ok n v) (hn : n ≤ 1048576) (hp : 1 ≤ pos) (hp2 : pos ≤ 2097152) (hg : Hid (∀ i, g i ≤ 2097152)) (z : Int) (hz : z = pos) :
    Calls Try.prog 20 #[.slice (some ⟨hb, 0, none⟩) (n + 1) (n + 1), .int .u32 (v : Nat), .int .i64 z] w fun e w' => e = .returned (.tuple #[]) ∧ (∃ g', w'.rowIs hb 3 (n + 1) (fun i => .int .i64 (g' i : Nat)) ∧ Noted g g' v pos) ∧ Below hb w w' := by
  unfold Ok at hv
  by_cases h0 : v = 0
  · have HR : Hid (∃ g', w.rowIs hb 3 (n + 1) (fun i => .int .i64 (g' i : Nat)) ∧ Noted g g' v pos) := ⟨g, hr, fun x hx => ⟨hx, Nat.le_refl _⟩, fun h => absurd h0 h, fun x => .inl (Nat.le_refl _)⟩
    rw [h0] at HR ⊢
    clear hv h0 hr hz
    go_enter Try.func20, Try.ntmps20
    go_wp2
    (try simp only [Exit.inBlock, Exit.then])
    refine bodyPost_ret (results_none rfl _ _ _) rfl ?_
    exact ⟨rfl, HR.out, Below.refl _ _⟩
  by_cases hT : v = 4294967295
  · have HR : Hid (∃ g', w.rowIs hb 3 (n + 1) (fun i => .int .i64 (g' i : Nat)) ∧ Noted g g' v pos) := ⟨g, hr, fun x hx => ⟨hx, Nat.le_refl _⟩, fun _ h => absurd hT h, fun x => .inl (Nat.le_refl _)⟩
    rw [hT] at HR ⊢
    clear hv h0 hr hz hT
    go_enter Try.func20, Try.ntmps20
    go_wp2
    (try simp only [Exit.inBlock, Exit.then])
    refine bodyPost_ret (results_none rfl _ _ _) rfl ?_
    exact ⟨rfl, HR.out, Below.refl _ _⟩
  subst hz
  have hvn : v ≤ n := by omega
  have q0 : ((v : Int) == 0) = false := by simp; omega
  have qT : ((v : Int) == 4294967295) = false := by simp; omega
  have cv := hr.cell (i := v) (by omega)
  have fv := hr.frozen v
  have hgv := hg.out v
  by_cases ht : g v = 0 ∨ pos < g v
  · have hset : Hid (∃ g', (w.setCell ⟨hb, v, none⟩ (.int .i64 (pos : Nat))).rowIs hb 3 (n + 1) (fun i => .int .i64 (g' i : Nat)) ∧ Noted g g' v pos) := by
      refine ⟨up g v pos, (hr.set v _).congr fun i _ => ?_, ⟨fun x hx => ?_, fun _ _ => ?_, fun x => ?_⟩⟩
      · by_cases e : i = v
        · subst e; simp [up_at]
        · simp [e, up_ne _ _ _ e]
      · by_cases e : x = v
        · subst e; rw [up_at]; omega
        · rw [up_ne _ _ _ e]; exact ⟨hx, Nat.le_refl _⟩
      · rw [up_at]; omega
      · by_cases e : x = v
        · subst e; rw [up_at]; exact .inr (Nat.le_refl _)
        · rw [up_ne _ _ _ e]; exact .inl (Nat.le_refl _)
    rcases ht with ht | ht
    · have qg : ((g v : Int) == 0) = true := by simp; omega
      have HT : Hid (g v = 0) := ht
      clear ht hr hv
      go_enter Try.func20, Try.ntmps20
      go_wp2
      go_end0
      exact ⟨rfl, hset.out, (Below.refl hb w).setCell (p := ⟨hb, v, none⟩) (Nat.le_refl _) _⟩
    · have qg : ((g v : Int) == 0) = false := by simp; omega
      clear hr hv
      go_enter Try.func20, Try.ntmps20
      go_wp2
      go_end0
      exact ⟨rfl, hset.out, (Below.refl hb w).setCell (p := ⟨hb, v, none⟩) (Nat.le_refl _) _⟩
  · have qg : ((g v : Int) == 0) = false := by simp; omega
    have hle : g v ≤ pos := by omega
    have HR : Hid (∃ g', w.rowIs hb 3 (n + 1) (fun i => .int .i64 (g' i : Nat)) ∧ Noted g g' v pos) := ⟨g, hr, fun x hx => ⟨hx, Nat.le_refl _⟩, fun _ _ => by omega, fun x => .inl (Nat.le_refl _)⟩
    clear hr hv ht
    go_enter Try.func20, Try.ntmps20
    go_wp2
    go_end0
    exact ⟨rfl, HR.out, Below.refl _ _⟩
end Go.Proofs.Qxb6604394a
