/- zzCloneU32, zzCloneU32s: functions 15, 16. -/
import Derived.Test.Qxb6604394aMem
namespace Go.Proofs.Qxb6604394a
open Go.RowKit

def uv (b : Nat) : Value := .int .u32 (b : Nat)

theorem range_map_get {α : Type} {f : Nat → α} {n j : Nat} {v : α} (h : ((List.range n).map f)[j]? = some v) : j < n ∧ v = f j := by
  obtain ⟨h1, h2⟩ := List.getElem?_eq_some_iff.1 h
  simp at h1 h2
  exact ⟨h1, h2.symm⟩
theorem cell_of_cells {w : World} {b i : Nat} {c : Array Value} {t : TypeId} (h : w.heap[b]? = some (.cells c t (0, 0))) : w.cell? ⟨b, i, none⟩ = c[i]? := by simp [World.cell?, h]

theorem copy_made (x : Addr) (n cap : Nat) (Z : Nat → Nat) (w : World) (h : URow w (some x) n Z) :
    ∃ w', (Builtin.copy_ #[30, 30] 3 #[.slice (some ⟨w.heap.size, 0, none⟩) n n, .slice (some x) n cap]).run Try.prog (w.alloc (.cells (madeCells #[.int .u32 0] n) 36)) = .ok (.int .i64 n) w' ∧
      Below w.heap.size w w' ∧ URow w' (some ⟨w.heap.size, 0, none⟩) n Z := by
  have hb0 : Below w.heap.size w (w.alloc (.cells (madeCells #[.int .u32 0] n) 36)) := (Below.refl _ _).alloc (Nat.le_refl _) _
  by_cases h0 : n = 0
  · subst h0
    exact ⟨_, run_copy_none _ 30 30 3 36 _ _ 0 0 0 cap Try.underlying30 (by kernel_rfl) rfl, hb0, ⟨fun _ => rfl, fun y _ i hi => absurd hi (Nat.not_lt_zero _)⟩⟩
  · have hl : ((List.range n).map fun i => uv (Z i)).length = n := by simp
    have hr := run_copy_row (P := Try.prog) (w.alloc (.cells (madeCells #[.int .u32 0] n) 36)) 30 30 3 36 w.heap.size 0 n n x n cap (madeCells #[.int .u32 0] n) 36 ((List.range n).map fun i => uv (Z i)) Try.underlying30 (by kernel_rfl) (heap_alloc_new _ _) (by simp) (fun j v hj => ?_) (by simp [size_madeCells]) (fun v hv => ?_)
    · rw [hl] at hr
      refine ⟨_, hr, below_setRow hb0 (Nat.le_refl _) _, ⟨by simp, fun y hy i hi => ?_⟩⟩
      cases hy
      rw [add_lit, Nat.zero_add]
      refine (cell_of_cells (setRow_heap _ _ _ _ 36 _ (heap_alloc_new _ _))).trans ?_
      simp [uv]
      rw [List.getElem?_append_left (by simpa using hi)]
      simp [hi]
    · obtain ⟨hi, rfl⟩ := range_map_get hj
      exact cell_below hb0 (h.2 x rfl _ hi)
    · simp at hv
      obtain ⟨i, _, rfl⟩ := hv
      rfl

theorem URow.set {w : World} {a : Option Addr} {m : Nat} {Z : Nat → Nat} (h : URow w a m Z) {p : Addr} {u : Value} (hp : w.cell? p = some u) (hu : ∀ k z, u ≠ .int k z) (v : Value) : URow (w.setCell p v) a m Z :=
  ⟨h.1, fun x hx i hi => by
    have hc := h.2 x hx i hi
    rw [World.cell?_setCell_other (h := fun e => by rw [← e, hp] at hc; cases hc; exact hu _ _ rfl)]
    exact hc⟩
theorem clone15_some (x : Addr) (n cap : Nat) (Z : Nat → Nat) (w : World) (hn : n ≤ 1048576) (h : URow w (some x) n Z) :
    Calls Try.prog 15 #[.slice (some x) n cap] w fun e w' => e = .returned (.slice (some ⟨w.heap.size, 0, none⟩) n n) ∧ Below w.heap.size w w' ∧ URow w' (some ⟨w.heap.size, 0, none⟩) n Z := by
  have q := nil30
  have hmk := run_make_row' (P := Try.prog) 30 36 (.int .u32 0) 4 Try.underlying30 info36 rfl .i64 .i64 n (by omega) (by omega)
  obtain ⟨w1, hcp, hb, hr⟩ := copy_made x n cap Z w h
  go_enter Try.func15, Try.ntmps15
  go_wp2
  go_ret
  exact ⟨rfl, hb, hr⟩
theorem clone15_nil (n cap : Nat) (w : World) : Calls Try.prog 15 #[.slice none n cap] w fun e w' => e = .returned (.slice none 0 0) ∧ w' = w := by
  have q := nil30
  go_enter Try.func15, Try.ntmps15
  go_wp2
  go_ret
  exact ⟨rfl, rfl⟩
theorem clone15_any (a : Option Addr) (n cap : Nat) (Z : Nat → Nat) (w : World) (hn : n ≤ 1048576) (h : URow w a n Z) :
    Calls Try.prog 15 #[.slice a n cap] w fun e w' => ∃ a' c', e = .returned (.slice a' n c') ∧ Below w.heap.size w w' ∧ URow w' a' n Z := by
  cases a with
  | none =>
    obtain rfl := h.1 rfl
    refine (clone15_nil 0 cap w).mono ?_
    rintro e w' ⟨rfl, rfl⟩
    exact ⟨none, 0, rfl, Below.refl _ _, h⟩
  | some x =>
    refine (clone15_some x n cap Z w hn h).mono ?_
    rintro e w' ⟨rfl, hb, hr⟩
    exact ⟨_, _, rfl, hb, hr⟩

def up {α : Type} (f : Nat → α) (k : Nat) (v : α) : Nat → α := fun i => if i = k then v else f i
theorem up_at {α : Type} (f : Nat → α) (k : Nat) (v : α) : up f k v k = v := by simp [up]
theorem up_ne {α : Type} (f : Nat → α) (k : Nat) (v : α) {i : Nat} (h : i ≠ k) : up f k v i = f i := by simp [up, h]

set_option maxHeartbeats 1000000 in
theorem clone16_some (x : Addr) (n cap : Nat) (A : Nat → Option Addr) (L C : Nat → Nat) (Z : Nat → Nat → Nat) (w : World) (hn : n ≤ 1048576) (hL : ∀ i, i < n → L i ≤ 1048576) (h : GRow w (some x) n A L C Z) :
    Calls Try.prog 16 #[.slice (some x) n cap] w fun e w' => ∃ A' C', e = .returned (.slice (some ⟨w.heap.size, 0, none⟩) n n) ∧ Below w.heap.size w w' ∧ GRow w' (some ⟨w.heap.size, 0, none⟩) n A' L C' Z := by
  have q := nil31
  have hmk := run_make_row' (P := Try.prog) 31 30 (.slice none 0 0) 24 Try.underlying31 info30 rfl .i64 .i64 n (by omega) (by omega)
  go_enter Try.func16, Try.ntmps16
  go_wp2
  go_loopw [4] (fun i wr => ∃ (k : Nat) (A' : Nat → Option Addr) (C' : Nat → Nat), k ≤ n ∧ i = .int .i64 k ∧ Below w.heap.size w wr ∧ wr.rowIs w.heap.size 30 n (fun i => if i < k then .slice (A' i) (L i) (C' i) else .slice none 0 0) ∧ ∀ i, i < k → URow wr (A' i) (L i) (Z i)) (fun i _ => n - (intOf i).toNat)
  case atStart => exact ⟨0, fun _ => none, fun _ => 0, Nat.zero_le _, rfl, (Below.refl _ _).alloc (Nat.le_refl _) _, (World.rowIs_made w (.slice none 0 0) n 30).congr (by simp), fun i hi => absurd hi (Nat.not_lt_zero _)⟩
  case round =>
    obtain ⟨k, A', C', hk, rfl, hb, hr, hrows⟩ := hrel
    by_cases hlt : k < n
    · obtain ⟨b, o, hx, hc⟩ := h.at (by omega)
      cases hx
      have h1 := cell_below hb (hc k hlt)
      have hrk := (h.rows k hlt).below hb
      have hLk := hL k hlt
      have HROWS : Hid (∀ i, i < k → URow wr (A' i) (L i) (Z i)) := hrows
      clear hc hrows
      go_wp2_with fail
      refine (clone15_any (A k) (L k) (C k) (Z k) wr hLk hrk).mono ?_
      rintro e w2 ⟨a', c', rfl, hb2, hr2⟩
      have hrw := hr.of_block (hb2.block _ hr.lt)
      have h2 := hrw.cell hlt
      have h3 := hrw.frozen k
      have hs := row_step (f := fun i => .slice (A' i) (L i) (C' i)) hrw (.slice a' (L k) c') (fun i => .slice (up A' k a' i) (L i) (up C' k c' i)) (by simp [up_at]) (fun i hi => by simp [up_ne _ _ _ (show i ≠ k by omega)])
      have hb3 := bstep hb hb2
      have HR2 : Hid (∀ i, i < k + 1 → URow (w2.setCell ⟨w.heap.size, k, none⟩ (.slice a' (L k) c')) (up A' k a' i) (L i) (Z i)) := fun i hi => by
        refine URow.set ?_ h2 (by simp) _
        by_cases e : i = k
        · subst e; rw [up_at]; exact hr2
        · rw [up_ne _ _ _ e]; exact (HROWS.out i (by omega)).below hb2
      go_wp2
      go_roundw
      case rel => exact ⟨k + 1, up A' k a', up C' k c', by omega, by go_num, hb3.setCell (Nat.le_refl _) _, hs, HR2.out⟩
      case measure => simp [intOf]; omega
    · go_wp2
      go_ret
      obtain rfl : k = n := by omega
      exact ⟨A', C', rfl, hb, ⟨by simp, fun y hy i hi => by cases hy; rw [add_lit, Nat.zero_add]; exact (row_done hr).cell hi, hrows⟩⟩
theorem clone16_nil (n cap : Nat) (w : World) : Calls Try.prog 16 #[.slice none n cap] w fun e w' => e = .returned (.slice none 0 0) ∧ w' = w := by
  have q := nil31
  go_enter Try.func16, Try.ntmps16
  go_wp2
  go_ret
  exact ⟨rfl, rfl⟩
theorem clone16_any (a : Option Addr) (n cap : Nat) (A : Nat → Option Addr) (L C : Nat → Nat) (Z : Nat → Nat → Nat) (w : World) (hn : n ≤ 1048576) (hL : ∀ i, i < n → L i ≤ 1048576) (h : GRow w a n A L C Z) :
    Calls Try.prog 16 #[.slice a n cap] w fun e w' => ∃ a' c' A' C', e = .returned (.slice a' n c') ∧ Below w.heap.size w w' ∧ GRow w' a' n A' L C' Z := by
  cases a with
  | none =>
    obtain rfl := h.nil rfl
    refine (clone16_nil 0 cap w).mono ?_
    rintro e w' ⟨rfl, rfl⟩
    exact ⟨none, 0, A, C, rfl, Below.refl _ _, h⟩
  | some x =>
    refine (clone16_some x n cap A L C Z w hn hL h).mono ?_
    rintro e w' ⟨A', C', rfl, hb, hr⟩
    exact ⟨_, _, A', C', rfl, hb, hr⟩
end Go.Proofs.Qxb6604394a
