/- SplitUint, readItem[uint64], Uint: functions 31, 30, 19. -/
import Derived.Test.Qxb6604339aFmtRd
namespace Go.Proofs.Qxb6604339aFmt
open Go.RowKit Go.Extern.Stop Go.Stop Go.Extern

/-- An item that is a number: at most eight bytes, no leading zero. -/
def UOk (h : Hd) (L : Nat → Nat) : Prop := h.good = true ∧ h.list = false ∧ h.stop - h.start ≤ 8 ∧ ¬ (h.start < h.stop ∧ L h.start = 0)

def USlOk (w : World) (R n : Nat) (L : Nat → Nat) (h : Hd) (e : Ending) : Prop :=
  ∃ x2 c2, e = .returned (.tuple #[.int .u64 (num L h.start (h.stop - h.start) : Nat), .slice (some x2) (n - h.stop) c2, .nilIface]) ∧ n - h.stop ≤ c2 ∧ BR w R (some x2) (n - h.stop) (fun i => L (h.stop + i))
def USlNo (w : World) (R : Nat) (e : Ending) : Prop :=
  ∃ a3 s, e = .returned (.tuple #[.int .u64 0, .slice none 0 0, .iface 66 (.pointer (some a3))]) ∧ a3.block < R ∧ w.cell? a3 = some (.string s)

set_option maxHeartbeats 1000000 in
theorem splitUint_ok (a : Option Addr) (n c : Nat) (L : Nat → Nat) (hL : ∀ i, L i < 256) (w : World) (R : Nat) (hE : Errs w R) (hb : BR w R a n L) (hc : n ≤ c) (hn : n ≤ 4194304) (hu : UOk (headH n L) L) :
    Calls Tryf.prog 31 #[.slice a n c] w fun e w' => USlOk w R n L (headH n L) e ∧ ∃ k, w' = w.drewN k := by
  have HU : Hid (UOk (headH n L) L) := hu
  clear hu
  go_enter Tryf.func31, Tryf.ntmps31
  go_wp2_with fail
  refine (splitString_ok a n c L hL w R hE hb hc hn HU.out.1 HU.out.2.1).mono ?_
  rintro e w' ⟨⟨x1, c1, x2, c2, rfl, h1, h2, h3, h4⟩, k, rfl⟩
  have hm8 := HU.out.2.2.1
  have hz := HU.out.2.2.2
  obtain ⟨m, hm⟩ : ∃ m, m = (headH n L).stop - (headH n L).start := ⟨_, rfl⟩
  rw [← hm] at h1 h3 hm8 ⊢
  have FIN : Hid (∀ z : Nat, z = num L (headH n L).start m → USlOk w R n L (headH n L) (.returned (.tuple #[.int .u64 (z : Nat), .slice (some x2) (n - (headH n L).stop) c2, .nilIface]))) := fun z hz => ⟨x2, c2, by rw [hz, hm], h2, h4⟩
  have HN : Hid (∀ j, num (fun i => L ((headH n L).start + i)) 0 j = num L (headH n L).start j) := fun j => num_shift L _ 0 j
  have hz' : m = 0 ∨ (0 < m ∧ L ((headH n L).start + 0) ≠ 0) := by rw [Nat.add_zero]; omega
  obtain ⟨M, hM⟩ : ∃ M : Nat → Nat, M = fun i => L ((headH n L).start + i) := ⟨_, rfl⟩
  have hM0 : L ((headH n L).start + 0) = M 0 := by rw [hM]
  have hM2 : ∀ i, M i < 256 := fun i => by rw [hM]; exact hL _
  rw [hM0] at hz'
  rw [← hM] at h3 HN
  have HM2 : Hid (∀ i, M i < 256) := hM2
  clear hM hM0 hM2 hz h4 h2 hm hL hE hb
  rcases hz' with hm0 | ⟨hm0, hz⟩
  · subst hm0
    have HF : Hid (USlOk w R n L (headH n L) (.returned (.tuple #[.int .u64 0, .slice (some x2) (n - (headH n L).stop) c2, .nilIface]))) := FIN.out 0 rfl
    go_wp2
    refine wp_loop_rounds 1 ?_
    rw [rounds_succ]
    go_wp2
    go_ret3
    exact ⟨HF.out, _, rfl⟩
  · obtain ⟨xb, xo, hxe, hxR, hxc⟩ := h3.at hm0
    cases hxe
    have c0 := hxc 0 hm0
    simp only [Nat.add_zero] at c0
    have hq : ((M 0 : Int) == 0) = false := by simp; omega
    have hq8 : decide ((8 : Int) < (m : Int)) = false := decide_eq_false (by omega)
    go_wp2
    clear c0
    go_loop [2, 7, 36] (fun uv cv i => ∃ j : Nat, j ≤ m ∧ i = .int .i64 j ∧ uv = .int .u64 (num M 0 j : Nat)) (fun _ _ i => m - (intOf i).toNat)
    case atStart => exact ⟨0, by omega, rfl, rfl⟩
    case round =>
      obtain ⟨j, hj, rfl, rfl⟩ := hrel
      by_cases hlt : j < m
      · have c1 := hxc j hlt
        have hr := num_lt_room M HM2.out 0 j (by omega)
        have hl := HM2.out j
        have HO : Hid (bits .or .u64 ((num M 0 j : Nat) * 256 : Int) (M j : Nat) = ((num M 0 j * 256 + M j : Nat) : Int)) := or_num (num M 0 j) (M j) hr hl
        clear hxc
        go_wp2
        go_round
        case rel => exact ⟨j + 1, by omega, by go_num, by rw [HO.out, num, Nat.zero_add]⟩
        case measure => simp [intOf]; omega
      · obtain rfl : m = j := by omega
        have FF := FIN.out (num M 0 m) (HN.out m)
        have HF : Hid (USlOk w R n L (headH n L) (.returned (.tuple #[.int .u64 (num M 0 m : Nat), .slice (some x2) (n - (headH n L).stop) c2, .nilIface]))) := FF
        clear FF hxc
        go_wp2
        go_ret3
        exact ⟨HF.out, _, rfl⟩

set_option maxHeartbeats 1000000 in
theorem splitUint_no (a : Option Addr) (n c : Nat) (L : Nat → Nat) (hL : ∀ i, L i < 256) (w : World) (R : Nat) (hE : Errs w R) (hU : ErrU w R) (hb : BR w R a n L) (hc : n ≤ c) (hn : n ≤ 4194304) (hu : ¬ UOk (headH n L) L) :
    Calls Tryf.prog 31 #[.slice a n c] w fun e w' => USlNo w R e ∧ ∃ k, w' = w.drewN k := by
  by_cases hs : (headH n L).good = true ∧ (headH n L).list = false
  · have HS : Hid ((headH n L).good = true ∧ (headH n L).list = false) := hs
    have HU : Hid (¬ UOk (headH n L) L) := hu
    clear hs hu
    go_enter Tryf.func31, Tryf.ntmps31
    go_wp2_with fail
    refine (splitString_ok a n c L hL w R hE hb hc hn HS.out.1 HS.out.2).mono ?_
    rintro e w' ⟨⟨x1, c1, x2, c2, rfl, h1, h2, h3, h4⟩, k, rfl⟩
    have hfit := (headH_fits n L).stop
    obtain ⟨m, hm⟩ : ∃ m, m = (headH n L).stop - (headH n L).start := ⟨_, rfl⟩
    have hmn : m ≤ n := by omega
    have hz : 8 < m ∨ (m ≤ 8 ∧ 0 < m ∧ L ((headH n L).start + 0) = 0) := by
      by_cases h8 : 8 < m
      · exact .inl h8
      · refine .inr ⟨by omega, ?_⟩
        by_cases hx : (headH n L).start < (headH n L).stop ∧ L (headH n L).start = 0
        · exact ⟨by omega, by rw [Nat.add_zero]; exact hx.2⟩
        · exact absurd ⟨HS.out.1, HS.out.2, by omega, hx⟩ HU.out
    rw [← hm] at h1 h3 ⊢
    clear hm hfit h2 h4 hb
    rcases hz with h8 | ⟨h8, hm0, hz⟩
    · obtain ⟨v, e2, a3, s, rfl, ha, hcs⟩ := hU.2
      go_wp2
      go_quiet (fail)
      go_wp2
      go_ret3
      exact ⟨⟨a3, s, rfl, ha, hcs⟩, _, by rw [World.drewN_drewN]⟩
    · obtain ⟨v, e0, a3, s, rfl, ha, hcs⟩ := hE.e0
      obtain ⟨xb, xo, hxe, hxR, hxc⟩ := h3.at hm0
      cases hxe
      have c0 := hxc 0 hm0
      simp only [Nat.add_zero] at c0 hz
      rw [hz] at c0
      clear hz hxc h3
      go_wp2
      go_quiet (fail)
      go_wp2
      go_ret3
      exact ⟨⟨a3, s, rfl, ha, hcs⟩, _, by rw [World.drewN_drewN]⟩
  · have HS : Hid (¬ ((headH n L).good = true ∧ (headH n L).list = false)) := hs
    clear hs hu
    go_enter Tryf.func31, Tryf.ntmps31
    go_wp2_with fail
    refine (splitString_no a n c L hL w R hE hb hc hn HS.out).mono ?_
    rintro e w' ⟨⟨a1, m1, c1, a2, m2, c2, a3, s, rfl, h6, h7, h8, h9⟩, k, rfl⟩
    clear h8 h9
    go_wp2
    go_ret3
    exact ⟨⟨a3, s, rfl, h6, h7⟩, _, rfl⟩

/-- A reader that has failed reads no more. -/
theorem readU_failed (w : World) (R n : Nat) (L : Nat → Nat) (nm : ByteArray) (f : Value) (h : Rd w R n L true) :
    Calls Tryf.prog 30 #[.pointer (some ⟨R, 0, none⟩), .string nm, f] w fun e w' => e = .returned (.int .u64 0) ∧ w' = w := by
  obtain ⟨a, c, ev, hh, _, _, _, h4⟩ := h
  obtain ⟨x, rfl⟩ := h4 rfl
  obtain ⟨h0, h1, h2, h3, h5⟩ := Rd.cells hh
  clear hh
  go_enter Tryf.func30, Tryf.ntmps30
  go_wp2
  go_ret
  exact ⟨rfl, rfl⟩

set_option maxHeartbeats 400000 in
theorem readU_ok (w : World) (R n : Nat) (L : Nat → Nat) (hL : ∀ i, L i < 256) (nm : ByteArray) (hE : Errs w R) (h : Rd w R n L false) (hn : n ≤ 4194304) (hu : UOk (headH n L) L) :
    Calls Tryf.prog 30 #[.pointer (some ⟨R, 0, none⟩), .string nm, .func (.func 31) #[] #[]] w fun e w' => e = .returned (.int .u64 (num L (headH n L).start ((headH n L).stop - (headH n L).start) : Nat)) ∧
      Rd w' R (n - (headH n L).stop) (fun i => L ((headH n L).stop + i)) false ∧ Below R w w' := by
  obtain ⟨a, c, ev, hh, hc, hb, h3, _⟩ := h
  obtain rfl := h3 rfl
  obtain ⟨h0, h1, h2, h3, h5⟩ := Rd.cells hh
  have HU : Hid (UOk (headH n L) L) := hu
  clear hu
  go_enter Tryf.func30, Tryf.ntmps30
  go_wp2_with fail
  refine (splitUint_ok a n c L hL w R hE hb hc hn HU.out).mono ?_
  rintro e w' ⟨⟨x2, c2, rfl, h7, h9⟩, k, rfl⟩
  have H9 : Hid (BR w R (some x2) (n - (headH n L).stop) (fun i => L ((headH n L).stop + i))) := h9
  clear h9
  go_wp2
  go_ret
  have hbel : Below R w ((w.setCell ⟨R, 0, none⟩ (.slice (some x2) (n - (headH n L).stop) c2)).drewN k) := below_drewN ((Below.refl R w).setCell (p := ⟨R, 0, none⟩) (Nat.le_refl R) _) _
  exact ⟨rfl, ⟨some x2, c2, .nilIface, set0 hh, h7, H9.out.below hbel, fun _ => rfl, by simp⟩, hbel⟩

set_option maxHeartbeats 400000 in
theorem readU_no (F : Interp) (w : World) (R n : Nat) (L : Nat → Nat) (hL : ∀ i, L i < 256) (nm : ByteArray) (hF : F.answers w.tape) (hE : Errs w R) (hU : ErrU w R) (h : Rd w R n L false) (hn : n ≤ 4194304) (hu : ¬ UOk (headH n L) L) :
    Calls Tryf.prog 30 #[.pointer (some ⟨R, 0, none⟩), .string nm, .func (.func 31) #[] #[]] w fun e w' => e = .returned (.int .u64 0) ∧ Rd w' R n L true ∧ Below R w w' := by
  obtain ⟨a, c, ev, hh, hc, hb, h3, _⟩ := h
  obtain rfl := h3 rfl
  obtain ⟨h0, h1, h2, h3, h5⟩ := Rd.cells hh
  have HU : Hid (¬ UOk (headH n L) L) := hu
  clear hu
  go_enter Tryf.func30, Tryf.ntmps30
  go_wp2_with fail
  refine (splitUint_no a n c L hL w R hE hU hb hc hn HU.out).mono ?_
  rintro e w' ⟨⟨a3, s, rfl, h6, h7⟩, k, rfl⟩
  go_wp2_with fail
  obtain ⟨W, hWe⟩ : ∃ W, W = (w.drewN k).alloc (.cells #[.iface 9 (.string nm), .iface 66 (.pointer (some a3))] 20) := ⟨_, rfl⟩
  have hsz : w.heap.size ≤ W.heap.size := by rw [hWe]; simp
  have g0 : W.cell? ⟨w.heap.size, 0, none⟩ = some (.iface 9 (.string nm)) := by rw [hWe]; exact (new_two (w.drewN k) _ _ _).1
  have g1 : W.cell? ⟨w.heap.size, 1, none⟩ = some (.iface 66 (.pointer (some a3))) := by rw [hWe]; exact (new_two (w.drewN k) _ _ _).2
  have hbW : Below w.heap.size w W := by rw [hWe]; exact (below_drewN (Below.refl _ w) k).alloc (Nat.le_refl _) _
  have g2 : W.cell? a3 = some (.string s) := cell_below hbW h7
  have hFW : F.answers W.tape := by rw [hbW.tape]; exact hF
  rw [← hWe]
  clear hWe
  refine (errorf_any F nm s w.heap.size a3 W hFW g0 g1 g2).mono ?_
  rintro e w1 ⟨⟨xe, rfl⟩, hb1⟩
  have hbw : Below w.heap.size w w1 := hbW.trans (hb1.mono hsz)
  have hh1 : w1.heap[R]? = some (.cells #[.slice a n c, .nilIface] 49 (0, 0)) := (hbw.block R h5).trans hh
  obtain ⟨i0, i1, i2, i3, i5⟩ := Rd.cells hh1
  clear g0 g1 g2 h0 h1 h2 h3 hF hFW hsz hb1 hbW
  go_wp2
  go_ret
  have hbel : Below R w (w1.setCell ⟨R, 1, none⟩ (.iface 64 (.pointer (some xe)))) := (hbw.mono (Nat.le_of_lt h5)).setCell (p := ⟨R, 1, none⟩) (Nat.le_refl R) _
  exact ⟨rfl, ⟨a, c, .iface 64 (.pointer (some xe)), set1 hh1, hc, hb.below hbel, by simp, fun _ => ⟨xe, rfl⟩⟩, hbel⟩

/-! The method Uint: function 19. -/
theorem uint_failed (w : World) (R n : Nat) (L : Nat → Nat) (nm : ByteArray) (h : Rd w R n L true) :
    Calls Tryf.prog 19 #[.pointer (some ⟨R, 0, none⟩), .string nm] w fun e w' => e = .returned (.int .u64 0) ∧ w' = w := by
  go_enter Tryf.func19, Tryf.ntmps19
  go_wp2_with fail
  refine (readU_failed w R n L nm _ h).mono ?_
  rintro e w' ⟨rfl, rfl⟩
  go_wp2
  go_ret
  exact ⟨rfl, rfl⟩
theorem uint_ok (w : World) (R n : Nat) (L : Nat → Nat) (hL : ∀ i, L i < 256) (nm : ByteArray) (hE : Errs w R) (h : Rd w R n L false) (hn : n ≤ 4194304) (hu : UOk (headH n L) L) :
    Calls Tryf.prog 19 #[.pointer (some ⟨R, 0, none⟩), .string nm] w fun e w' => e = .returned (.int .u64 (num L (headH n L).start ((headH n L).stop - (headH n L).start) : Nat)) ∧
      Rd w' R (n - (headH n L).stop) (fun i => L ((headH n L).stop + i)) false ∧ Below R w w' := by
  have HU : Hid (UOk (headH n L) L) := hu
  clear hu
  go_enter Tryf.func19, Tryf.ntmps19
  go_wp2_with fail
  refine (readU_ok w R n L hL nm hE h hn HU.out).mono ?_
  rintro e w' ⟨rfl, h3, h4⟩
  go_wp2
  go_ret
  exact ⟨rfl, h3, h4⟩
theorem uint_no (F : Interp) (w : World) (R n : Nat) (L : Nat → Nat) (hL : ∀ i, L i < 256) (nm : ByteArray) (hF : F.answers w.tape) (hE : Errs w R) (hU : ErrU w R) (h : Rd w R n L false) (hn : n ≤ 4194304) (hu : ¬ UOk (headH n L) L) :
    Calls Tryf.prog 19 #[.pointer (some ⟨R, 0, none⟩), .string nm] w fun e w' => e = .returned (.int .u64 0) ∧ Rd w' R n L true ∧ Below R w w' := by
  have HU : Hid (¬ UOk (headH n L) L) := hu
  clear hu
  go_enter Tryf.func19, Tryf.ntmps19
  go_wp2_with fail
  refine (readU_no F w R n L hL nm hF hE hU h hn HU.out).mono ?_
  rintro e w' ⟨rfl, h3, h4⟩
  go_wp2
  go_ret
  exact ⟨rfl, h3, h4⟩
end Go.Proofs.Qxb6604339aFmt
