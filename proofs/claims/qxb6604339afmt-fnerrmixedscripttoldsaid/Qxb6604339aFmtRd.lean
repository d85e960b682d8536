/- The reader: NewReader, readItem[[]byte], Bytes, Err, ZZItems, zzSame: functions 12, 28, 13, 14, 16, 15. -/
import Derived.Test.Qxb6604339aFmtStr
import Derived.Test.Qxb6604339aFmtErr
namespace Go.Proofs.Qxb6604339aFmt
open Go.RowKit Go.Extern.Stop Go.Stop Go.Extern

/-- The reader at block R: n bytes L are left; whether it has failed. -/
def Rd (w : World) (R n : Nat) (L : Nat → Nat) (f : Bool) : Prop :=
  ∃ a c ev, w.heap[R]? = some (.cells #[.slice a n c, ev] 49 (0, 0)) ∧ n ≤ c ∧ BR w R a n L ∧ (f = false → ev = .nilIface) ∧ (f = true → ∃ x, ev = .iface 64 (.pointer (some x)))

theorem Rd.cells {w : World} {R : Nat} {v ev : Value} {t : TypeId} (h : w.heap[R]? = some (.cells #[v, ev] t (0, 0))) :
    w.cell? ⟨R, 0, none⟩ = some v ∧ w.cell? ⟨R, 1, none⟩ = some ev ∧ w.frozen? ⟨R, 0, none⟩ = false ∧ w.frozen? ⟨R, 1, none⟩ = false ∧ R < w.heap.size := by
  refine ⟨by simp [World.cell?, h], by simp [World.cell?, h], by simp [World.frozen?, h], by simp [World.frozen?, h], ?_⟩
  obtain ⟨hlt, _⟩ := Array.getElem?_eq_some_iff.1 h
  exact hlt
theorem set0 {w : World} {R : Nat} {v ev u : Value} {t : TypeId} (h : w.heap[R]? = some (.cells #[v, ev] t (0, 0))) : (w.setCell ⟨R, 0, none⟩ u).heap[R]? = some (.cells #[u, ev] t (0, 0)) := by
  simp [World.setCell, Array.getElem?_modify, h]
theorem set1 {w : World} {R : Nat} {v ev u : Value} {t : TypeId} (h : w.heap[R]? = some (.cells #[v, ev] t (0, 0))) : (w.setCell ⟨R, 1, none⟩ u).heap[R]? = some (.cells #[v, u] t (0, 0)) := by
  simp [World.setCell, Array.getElem?_modify, h]

theorem new_two (v : World) (x y : Value) (t : TypeId) : (v.alloc (.cells #[x, y] t)).cell? ⟨v.heap.size, 0, none⟩ = some x ∧ (v.alloc (.cells #[x, y] t)).cell? ⟨v.heap.size, 1, none⟩ = some y := by
  constructor <;> simp [go_sem]

/-- A reader that has failed reads no more. -/
theorem readItem_failed (w : World) (R n : Nat) (L : Nat → Nat) (nm : ByteArray) (f : Value) (h : Rd w R n L true) :
    Calls Tryf.prog 28 #[.pointer (some ⟨R, 0, none⟩), .string nm, f] w fun e w' => e = .returned (.slice none 0 0) ∧ w' = w := by
  obtain ⟨a, c, ev, hh, _, _, _, h4⟩ := h
  obtain ⟨x, rfl⟩ := h4 rfl
  obtain ⟨h0, h1, h2, h3, h5⟩ := Rd.cells hh
  clear hh
  go_enter Tryf.func28, Tryf.ntmps28
  go_wp2
  go_ret
  exact ⟨rfl, rfl⟩

set_option maxHeartbeats 400000 in
/-- A well-formed byte string is read. -/
theorem readItem_ok (w : World) (R n : Nat) (L : Nat → Nat) (hL : ∀ i, L i < 256) (nm : ByteArray) (hE : Errs w R) (h : Rd w R n L false) (hn : n ≤ 4194304) (hg : (headH n L).good = true) (hl : (headH n L).list = false) :
    Calls Tryf.prog 28 #[.pointer (some ⟨R, 0, none⟩), .string nm, .func (.func 29) #[] #[]] w fun e w' => (∃ x c, e = .returned (.slice (some x) ((headH n L).stop - (headH n L).start) c) ∧ (headH n L).stop - (headH n L).start ≤ c ∧ BR w' R (some x) ((headH n L).stop - (headH n L).start) (fun i => L ((headH n L).start + i))) ∧
      Rd w' R (n - (headH n L).stop) (fun i => L ((headH n L).stop + i)) false ∧ Below R w w' := by
  obtain ⟨a, c, ev, hh, hc, hb, h3, _⟩ := h
  obtain rfl := h3 rfl
  obtain ⟨h0, h1, h2, h3, h5⟩ := Rd.cells hh
  have HG : Hid ((headH n L).good = true) := hg
  have HL : Hid ((headH n L).list = false) := hl
  clear hg hl
  go_enter Tryf.func28, Tryf.ntmps28
  go_wp2_with fail
  refine (splitString_ok a n c L hL w R hE hb hc hn HG.out HL.out).mono ?_
  rintro e w' ⟨⟨x1, c1, x2, c2, rfl, h6, h7, h8, h9⟩, k, rfl⟩
  have H8 : Hid (BR w R (some x1) ((headH n L).stop - (headH n L).start) (fun i => L ((headH n L).start + i))) := h8
  have H9 : Hid (BR w R (some x2) (n - (headH n L).stop) (fun i => L ((headH n L).stop + i))) := h9
  clear h8 h9
  go_wp2
  go_ret
  have hbel : Below R w ((w.setCell ⟨R, 0, none⟩ (.slice (some x2) (n - (headH n L).stop) c2)).drewN k) := below_drewN ((Below.refl R w).setCell (p := ⟨R, 0, none⟩) (Nat.le_refl R) _) _
  exact ⟨⟨x1, c1, rfl, h6, H8.out.below hbel⟩, ⟨some x2, c2, .nilIface, set0 hh, h7, H9.out.below hbel, fun _ => rfl, by simp⟩, hbel⟩

set_option maxHeartbeats 400000 in
/-- Anything else: an error is kept; the bytes stay. -/
theorem readItem_no (F : Interp) (w : World) (R n : Nat) (L : Nat → Nat) (hL : ∀ i, L i < 256) (nm : ByteArray) (hF : F.answers w.tape) (hE : Errs w R) (h : Rd w R n L false) (hn : n ≤ 4194304) (hg : ¬ ((headH n L).good = true ∧ (headH n L).list = false)) :
    Calls Tryf.prog 28 #[.pointer (some ⟨R, 0, none⟩), .string nm, .func (.func 29) #[] #[]] w fun e w' => (∃ a m c, e = .returned (.slice a m c) ∧ ((headH n L).shown = true → Sl w' R (.slice a m c) ((headH n L).stop - (headH n L).start) (fun i => L ((headH n L).start + i))) ∧ ((headH n L).shown = false → a = none ∧ m = 0 ∧ c = 0)) ∧
      Rd w' R n L true ∧ Below R w w' := by
  obtain ⟨a, c, ev, hh, hc, hb, h3, _⟩ := h
  obtain rfl := h3 rfl
  obtain ⟨h0, h1, h2, h3, h5⟩ := Rd.cells hh
  have HG : Hid (¬ ((headH n L).good = true ∧ (headH n L).list = false)) := hg
  clear hg
  go_enter Tryf.func28, Tryf.ntmps28
  go_wp2_with fail
  refine (splitString_no a n c L hL w R hE hb hc hn HG.out).mono ?_
  rintro e w' ⟨⟨a1, m1, c1, a2, m2, c2, a3, s, rfl, h6, h7, h8, h9⟩, k, rfl⟩
  have H8 : Hid ((headH n L).shown = true → Sl w R (.slice a1 m1 c1) ((headH n L).stop - (headH n L).start) (fun i => L ((headH n L).start + i))) := h8
  have H9 : Hid ((headH n L).shown = false → a1 = none ∧ m1 = 0 ∧ c1 = 0) := h9
  clear h8 h9
  go_wp2_with fail
  obtain ⟨W, hWe⟩ : ∃ W, W = (w.drewN k).alloc (.cells #[.iface 9 (.string nm), .iface 66 (.pointer (some a3))] 20) := ⟨_, rfl⟩
  have hsz : w.heap.size ≤ W.heap.size := by rw [hWe]; simp
  have g0 : W.cell? ⟨w.heap.size, 0, none⟩ = some (.iface 9 (.string nm)) := by rw [hWe]; exact (new_two (w.drewN k) _ _ _).1
  have g1 : W.cell? ⟨w.heap.size, 1, none⟩ = some (.iface 66 (.pointer (some a3))) := by rw [hWe]; exact (new_two (w.drewN k) _ _ _).2
  have hbW : Below w.heap.size w W := by rw [hWe]; exact (below_drewN (Below.refl _ w) k).alloc (Nat.le_refl _) _
  have g2 : W.cell? a3 = some (.string s) := cell_below hbW h7
  have hFW : F.answers W.tape := by rw [hbW.tape]; exact hF
  rw [← hWe]
  clear hWe
  refine (errorf_any F nm s w.heap.size a3 W hFW g0 g1 g2).mono ?_
  rintro e w1 ⟨⟨xe, rfl⟩, hb1⟩
  have hbw : Below w.heap.size w w1 := hbW.trans (hb1.mono hsz)
  have hh1 : w1.heap[R]? = some (.cells #[.slice a n c, .nilIface] 49 (0, 0)) := (hbw.block R h5).trans hh
  obtain ⟨i0, i1, i2, i3, i5⟩ := Rd.cells hh1
  clear g0 g1 g2 h0 h1 h2 h3 hF hFW hsz hb1 hbW
  go_wp2
  go_ret
  have hbel : Below R w (w1.setCell ⟨R, 1, none⟩ (.iface 64 (.pointer (some xe)))) := (hbw.mono (Nat.le_of_lt h5)).setCell (p := ⟨R, 1, none⟩) (Nat.le_refl R) _
  exact ⟨⟨a1, m1, c1, rfl, fun e => (H8.out e).below hbel, H9.out⟩, ⟨a, c, .iface 64 (.pointer (some xe)), set1 hh1, hc, hb.below hbel, by simp, fun _ => ⟨xe, rfl⟩⟩, hbel⟩

/-! The method Bytes: function 13. -/
theorem bytes_failed (w : World) (R n : Nat) (L : Nat → Nat) (nm : ByteArray) (h : Rd w R n L true) :
    Calls Tryf.prog 13 #[.pointer (some ⟨R, 0, none⟩), .string nm] w fun e w' => e = .returned (.slice none 0 0) ∧ w' = w := by
  go_enter Tryf.func13, Tryf.ntmps13
  go_wp2_with fail
  refine (readItem_failed w R n L nm _ h).mono ?_
  rintro e w' ⟨rfl, rfl⟩
  go_wp2
  go_ret
  exact ⟨rfl, rfl⟩
theorem bytes_ok (w : World) (R n : Nat) (L : Nat → Nat) (hL : ∀ i, L i < 256) (nm : ByteArray) (hE : Errs w R) (h : Rd w R n L false) (hn : n ≤ 4194304) (hg : (headH n L).good = true) (hl : (headH n L).list = false) :
    Calls Tryf.prog 13 #[.pointer (some ⟨R, 0, none⟩), .string nm] w fun e w' => (∃ x c, e = .returned (.slice (some x) ((headH n L).stop - (headH n L).start) c) ∧ (headH n L).stop - (headH n L).start ≤ c ∧ BR w' R (some x) ((headH n L).stop - (headH n L).start) (fun i => L ((headH n L).start + i))) ∧
      Rd w' R (n - (headH n L).stop) (fun i => L ((headH n L).stop + i)) false ∧ Below R w w' := by
  have HG : Hid ((headH n L).good = true) := hg
  have HL : Hid ((headH n L).list = false) := hl
  clear hg hl
  go_enter Tryf.func13, Tryf.ntmps13
  go_wp2_with fail
  refine (readItem_ok w R n L hL nm hE h hn HG.out HL.out).mono ?_
  rintro e w' ⟨⟨x, c, rfl, h1, h2⟩, h3, h4⟩
  go_wp2
  go_ret
  exact ⟨⟨x, c, rfl, h1, h2⟩, h3, h4⟩
theorem bytes_no (F : Interp) (w : World) (R n : Nat) (L : Nat → Nat) (hL : ∀ i, L i < 256) (nm : ByteArray) (hF : F.answers w.tape) (hE : Errs w R) (h : Rd w R n L false) (hn : n ≤ 4194304) (hg : ¬ ((headH n L).good = true ∧ (headH n L).list = false)) :
    Calls Tryf.prog 13 #[.pointer (some ⟨R, 0, none⟩), .string nm] w fun e w' => (∃ a m c, e = .returned (.slice a m c) ∧ ((headH n L).shown = true → Sl w' R (.slice a m c) ((headH n L).stop - (headH n L).start) (fun i => L ((headH n L).start + i))) ∧ ((headH n L).shown = false → a = none ∧ m = 0 ∧ c = 0)) ∧
      Rd w' R n L true ∧ Below R w w' := by
  have HG : Hid (¬ ((headH n L).good = true ∧ (headH n L).list = false)) := hg
  clear hg
  go_enter Tryf.func13, Tryf.ntmps13
  go_wp2_with fail
  refine (readItem_no F w R n L hL nm hF hE h hn HG.out).mono ?_
  rintro e w' ⟨⟨a, m, c, rfl, h1, h2⟩, h3, h4⟩
  have H1 : Hid ((headH n L).shown = true → Sl w' R (.slice a m c) ((headH n L).stop - (headH n L).start) (fun i => L ((headH n L).start + i))) := h1
  have H2 : Hid ((headH n L).shown = false → a = none ∧ m = 0 ∧ c = 0) := h2
  clear h1 h2
  go_wp2
  go_ret
  exact ⟨⟨a, m, c, rfl, H1.out, H2.out⟩, h3, h4⟩

/-! NewReader, Err, ZZItems: functions 12, 14, 16. -/
theorem newReader_any (w : World) (a : Option Addr) (n c : Nat) (L : Nat → Nat) (hb : BR w w.heap.size a n L) (hc : n ≤ c) :
    Calls Tryf.prog 12 #[.slice a n c] w fun e w' => e = .returned (.pointer (some ⟨w.heap.size, 0, none⟩)) ∧ Rd w' w.heap.size n L false ∧ Below w.heap.size w w' := by
  go_enter Tryf.func12, Tryf.ntmps12
  go_wp2
  go_ret
  have hbel : Below w.heap.size w (w.alloc (.cells #[.slice a n c, .nilIface] 49)) := (Below.refl _ _).alloc (Nat.le_refl _) _
  exact ⟨rfl, ⟨a, c, .nilIface, Deep.blk_alloc_new _ _, hc, hb.below hbel, fun _ => rfl, by simp⟩, hbel⟩
theorem err_any (w : World) (R n : Nat) (L : Nat → Nat) (f : Bool) (h : Rd w R n L f) :
    Calls Tryf.prog 14 #[.pointer (some ⟨R, 0, none⟩)] w fun e w' => (∃ ev, e = .returned ev ∧ (f = false → ev = .nilIface) ∧ (f = true → ∃ x, ev = .iface 64 (.pointer (some x)))) ∧ w' = w := by
  obtain ⟨a, c, ev, hh, _, _, h3, h4⟩ := h
  obtain ⟨h0, h1, h2, h5, h6⟩ := Rd.cells hh
  cases f
  · obtain rfl := h3 rfl
    clear h3 h4 hh
    go_enter Tryf.func14, Tryf.ntmps14
    go_wp2
    go_ret
    exact ⟨⟨_, rfl, fun _ => rfl, by simp⟩, rfl⟩
  · obtain ⟨x, rfl⟩ := h4 rfl
    clear h3 h4 hh
    go_enter Tryf.func14, Tryf.ntmps14
    go_wp2
    go_ret
    exact ⟨⟨_, rfl, by simp, fun _ => ⟨x, rfl⟩⟩, rfl⟩
theorem items_any (w : World) (R n : Nat) (L : Nat → Nat) (f : Bool) (h : Rd w R n L f) :
    Calls Tryf.prog 16 #[.pointer (some ⟨R, 0, none⟩)] w fun e w' => (∃ a c, e = .returned (.slice a n c) ∧ n ≤ c ∧ BR w R a n L) ∧ w' = w := by
  obtain ⟨a, c, ev, hh, hc, hb, h3, h4⟩ := h
  obtain ⟨h0, h1, h2, h5, h6⟩ := Rd.cells hh
  clear h3 h4 hh
  go_enter Tryf.func16, Tryf.ntmps16
  go_wp2
  go_ret
  exact ⟨⟨a, c, rfl, hc, hb⟩, rfl⟩

set_option maxHeartbeats 400000 in
/-- zzSame, the two slices alike: function 15. -/
theorem same_yes (w : World) (R : Nat) (a b : Option Addr) (n c d : Nat) (L M : Nat → Nat) (hn : n ≤ 4194304) (ha : BR w R a n L) (hb : BR w R b n M) (he : ∀ i, i < n → L i = M i) :
    Calls Tryf.prog 15 #[.slice a n c, .slice b n d] w fun e w' => e = .returned (.bool true) ∧ ∃ k, w' = w.drewN k := by
  have HE : Hid (∀ i, i < n → L i = M i) := he
  clear he
  go_enter Tryf.func15, Tryf.ntmps15
  go_wp2
  go_loopw [5] (fun i wr => ∃ j k : Nat, j ≤ n ∧ i = .int .i64 j ∧ wr = w.drewN k) (fun i _ => n - (intOf i).toNat)
  case atStart => exact ⟨0, 0, by omega, rfl, rfl⟩
  case round =>
    obtain ⟨j, k, hj, rfl, rfl⟩ := hrel
    by_cases hlt : j < n
    · obtain ⟨ab, ao, rfl, ha1, hac⟩ := ha.at (by omega)
      obtain ⟨bb, bo, rfl, hb1, hbc⟩ := hb.at (by omega)
      have c1 := hac j hlt
      have c2 := hbc j hlt
      rw [← HE.out j hlt] at c2
      clear hac hbc
      go_wp2_with fail
      go_quiet (fail)
      go_wp2
      go_roundw
      case rel => exact ⟨j + 1, _, by omega, by go_num, rfl⟩
      case measure => simp [intOf]; omega
    · go_wp2
      go_ret
      exact ⟨rfl, k, rfl⟩
end Go.Proofs.Qxb6604339aFmt
