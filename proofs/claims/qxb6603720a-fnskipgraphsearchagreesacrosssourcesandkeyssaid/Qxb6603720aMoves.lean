/- segment, MovesOn, MovesBack, EndsAfter: functions 28, 27, 29, 32. -/
import Derived.Test.Qxb6603720aNew
import Derived.Test.Qxb6603720aPlain
namespace Go.Proofs.Qxb6603720a
open Go.RowKit

set_option maxHeartbeats 400000 in
theorem segment_last (w : World) (G n nb x : Nat) (S : Nat → ByteArray) (B P Q : Nat → Int) (h : Graph w G n nb S B P Q) (hn : n ≤ 1048576) (hx : x + 1 = n) :
    Calls Try.prog 28 #[.pointer (some ⟨G, 0, none⟩), .int .i64 x] w fun e w' => e = .returned (.agg #[.string (S x), .string ByteArray.empty, .bool true]) ∧ Below w.heap.size w w' := by
  obtain ⟨sa, sc, ba, bc, bb, h1, h2, h3, h4, h5, h6⟩ := h
  obtain ⟨sb, so, rfl, hs⟩ := h2.at (by omega)
  have c1 := hs x (by omega)
  clear h2 h3 h4 h5 h6 hs
  have hG := World.block_lt_of_cell? _ _ h1
  have hB := World.block_lt_of_cell? _ _ c1
  simp only at hG hB
  have H : Hid (x + 1 = n) := hx
  have e1 : ((x : Int) == (n : Int) - 1) = true := by rw [beq_iff_eq]; omega
  have e2 : x < n := by omega
  clear hx
  go_enter Try.func28, Try.ntmps28
  go_wp2
  refine bodyPost_ret (v := .agg #[.string (S x), .string ByteArray.empty, .bool true]) (by simp [results, Try.results28, go_sem]; rfl) rfl ⟨rfl, ?_⟩
  exact ((Below.refl _ _).alloc (Nat.le_refl _) _)

set_option maxHeartbeats 400000 in
theorem segment_other (w : World) (G n nb x : Nat) (S : Nat → ByteArray) (B P Q : Nat → Int) (h : Graph w G n nb S B P Q) (hn : n ≤ 1048576) (hx : x + 1 < n) :
    Calls Try.prog 28 #[.pointer (some ⟨G, 0, none⟩), .int .i64 x] w fun e w' => e = .returned (.agg #[.string (S x), .string (S (x + 1)), .bool false]) ∧ Below w.heap.size w w' := by
  obtain ⟨sa, sc, ba, bc, bb, h1, h2, h3, h4, h5, h6⟩ := h
  obtain ⟨sb, so, rfl, hs⟩ := h2.at (by omega)
  have c1 := hs x (by omega)
  have c2 := hs (x + 1) (by omega)
  clear h2 h3 h4 h5 h6 hs
  have hG := World.block_lt_of_cell? _ _ h1
  have hB := World.block_lt_of_cell? _ _ c1
  simp only at hG hB
  go_enter Try.func28, Try.ntmps28
  go_wp2
  go_region
  all_goals go_wp2
  all_goals (refine bodyPost_ret (v := .agg #[.string (S x), .string (S (x + 1)), .bool false]) (by simp [results, Try.results28, go_sem]) rfl ⟨rfl, ?_⟩)
  all_goals exact ((Below.refl _ _).alloc (Nat.le_refl _) _).drew

theorem moveson_any (key s t : ByteArray) (o ahead : Bool) (w : World) :
    Calls Try.prog 27 #[.string key, .agg #[.string s, .string t, .bool o], .bool ahead] w fun e w' => e = .returned (.bool (ahead && leS s key)) ∧ Below w.heap.size w w' := by
  cases ahead
  · go_enter Try.func27, Try.ntmps27
    go_wp2
    go_ret
    exact ⟨rfl, (Below.refl _ _).alloc (Nat.le_refl _) _⟩
  · go_enter Try.func27, Try.ntmps27
    go_wp2
    go_ret
    exact ⟨rfl, (Below.refl _ _).alloc (Nat.le_refl _) _⟩
theorem endsafter_any (key s t : ByteArray) (o : Bool) (w : World) :
    Calls Try.prog 32 #[.agg #[.string s, .string t, .bool o], .string key] w fun e w' => e = .returned (.bool (o || !leS t key)) ∧ Below w.heap.size w w' := by
  cases o
  · go_enter Try.func32, Try.ntmps32
    go_wp2
    go_ret
    exact ⟨by simp [leS], (Below.refl _ _).alloc (Nat.le_refl _) _⟩
  · go_enter Try.func32, Try.ntmps32
    go_wp2
    go_ret
    exact ⟨rfl, (Below.refl _ _).alloc (Nat.le_refl _) _⟩
theorem movesback_any (key s t : ByteArray) (o behind : Bool) (w : World) :
    Calls Try.prog 29 #[.string key, .agg #[.string s, .string t, .bool o], .bool behind] w fun e w' => e = .returned (.bool (behind && (o || !leS t key))) ∧ Below w.heap.size w w' := by
  cases behind
  · go_enter Try.func29, Try.ntmps29
    go_wp2
    go_ret
    exact ⟨rfl, (Below.refl _ _).alloc (Nat.le_refl _) _⟩
  · go_enter Try.func29, Try.ntmps29
    go_wp2_with (go_at_call 32; refine (endsafter_any _ _ _ _ _).mono ?_; rintro e w' ⟨rfl, hb⟩)
    go_ret
    exact ⟨rfl, ((Below.refl _ _).alloc (Nat.le_refl _) _).trans (hb.mono (by simp))⟩
end Go.Proofs.Qxb6603720a
