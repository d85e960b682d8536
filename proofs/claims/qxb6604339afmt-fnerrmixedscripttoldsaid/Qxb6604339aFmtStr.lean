/- SplitString: function 29. -/
import Derived.Test.Qxb6604339aFmtSplit
import Derived.Stop.IfaceNil
namespace Go.Proofs.Qxb6604339aFmt
open Go.RowKit

theorem split_ok (a : Option Addr) (n c : Nat) (L : Nat → Nat) (hL : ∀ i, L i < 256) (w : World) (R : Nat) (hE : Errs w R) (hb : BR w R a n L) (hc : n ≤ c) (hn : n ≤ 4194304) (k : Int) (hg : (headH n L).good = true) (hl : (if (headH n L).list = true then 1 else 0) = k) :
    Calls Tryf.prog 36 #[.slice a n c] w fun e w' => (∃ x1 c1 x2 c2, e = .returned (.tuple #[.int .i64 k, .slice (some x1) ((headH n L).stop - (headH n L).start) c1, .slice (some x2) (n - (headH n L).stop) c2, .nilIface]) ∧
      (headH n L).stop - (headH n L).start ≤ c1 ∧ n - (headH n L).stop ≤ c2 ∧ BR w R (some x1) ((headH n L).stop - (headH n L).start) (fun i => L ((headH n L).start + i)) ∧ BR w R (some x2) (n - (headH n L).stop) (fun i => L ((headH n L).stop + i))) ∧ ∃ k, w' = w.drewN k := by
  refine (split_any a n c L hL w R hE hb hc hn).mono ?_
  rintro e w' ⟨⟨v1, v2, er, rfl, h1, _⟩, h2⟩
  obtain ⟨rfl, ⟨x1, c1, rfl, hc1, hr1⟩, x2, c2, rfl, hc2, hr2⟩ := h1 hg
  rw [hl]
  exact ⟨⟨x1, c1, x2, c2, rfl, hc1, hc2, hr1, hr2⟩, h2⟩
theorem split_bad (a : Option Addr) (n c : Nat) (L : Nat → Nat) (hL : ∀ i, L i < 256) (w : World) (R : Nat) (hE : Errs w R) (hb : BR w R a n L) (hc : n ≤ c) (hn : n ≤ 4194304) (hg : (headH n L).good = false) :
    Calls Tryf.prog 36 #[.slice a n c] w fun e w' => (∃ k a1 m1 c1 a2 m2 c2 a3 s, e = .returned (.tuple #[.int .i64 k, .slice a1 m1 c1, .slice a2 m2 c2, .iface 66 (.pointer (some a3))]) ∧ a3.block < R ∧ w.cell? a3 = some (.string s) ∧
      ((headH n L).shown = true → Sl w R (.slice a1 m1 c1) ((headH n L).stop - (headH n L).start) (fun i => L ((headH n L).start + i))) ∧ ((headH n L).shown = false → a1 = none ∧ m1 = 0 ∧ c1 = 0)) ∧ ∃ k, w' = w.drewN k := by
  refine (split_any a n c L hL w R hE hb hc hn).mono ?_
  rintro e w' ⟨⟨v1, v2, er, rfl, _, h1⟩, h2⟩
  obtain ⟨⟨a3, s, rfl, ha, hs⟩, hsh, hns, a2, m2, c2, rfl⟩ := h1 hg
  refine ⟨?_, h2⟩
  cases hsw : (headH n L).shown
  · rw [hns hsw]
    exact ⟨_, none, 0, 0, a2, m2, c2, a3, s, rfl, ha, hs, by simp, fun _ => ⟨rfl, rfl, rfl⟩⟩
  · have hS := hsh hsw
    have hS' := hS
    obtain ⟨x1, c1, rfl, hc1, hr1⟩ := hS'
    exact ⟨_, some x1, _, c1, a2, m2, c2, a3, s, rfl, ha, hs, fun _ => hS, by simp⟩

/-- What SplitString hands back. -/
def StrOk (w : World) (R n : Nat) (L : Nat → Nat) (h : Hd) (e : Ending) : Prop :=
  ∃ x1 c1 x2 c2, e = .returned (.tuple #[.slice (some x1) (h.stop - h.start) c1, .slice (some x2) (n - h.stop) c2, .nilIface]) ∧ h.stop - h.start ≤ c1 ∧ n - h.stop ≤ c2 ∧ BR w R (some x1) (h.stop - h.start) (fun i => L (h.start + i)) ∧ BR w R (some x2) (n - h.stop) (fun i => L (h.stop + i))
def StrNo (w : World) (R : Nat) (L : Nat → Nat) (h : Hd) (e : Ending) : Prop :=
  ∃ a1 m1 c1 a2 m2 c2 a3 s, e = .returned (.tuple #[.slice a1 m1 c1, .slice a2 m2 c2, .iface 66 (.pointer (some a3))]) ∧ a3.block < R ∧ w.cell? a3 = some (.string s) ∧
    (h.shown = true → Sl w R (.slice a1 m1 c1) (h.stop - h.start) (fun i => L (h.start + i))) ∧ (h.shown = false → a1 = none ∧ m1 = 0 ∧ c1 = 0)

set_option maxHeartbeats 400000 in
theorem splitString_ok (a : Option Addr) (n c : Nat) (L : Nat → Nat) (hL : ∀ i, L i < 256) (w : World) (R : Nat) (hE : Errs w R) (hb : BR w R a n L) (hc : n ≤ c) (hn : n ≤ 4194304) (hg : (headH n L).good = true) (hl : (headH n L).list = false) :
    Calls Tryf.prog 29 #[.slice a n c] w fun e w' => StrOk w R n L (headH n L) e ∧ ∃ k, w' = w.drewN k := by
  have HG : Hid ((headH n L).good = true) := hg
  have HL : Hid ((headH n L).list = false) := hl
  clear hg hl
  go_enter Tryf.func29, Tryf.ntmps29
  go_wp2_with fail
  refine (split_ok a n c L hL w R hE hb hc hn 0 HG.out (by rw [HL.out]; rfl)).mono ?_
  rintro e w' ⟨⟨x1, c1, x2, c2, rfl, h1, h2, h3, h4⟩, k, rfl⟩
  go_wp2
  go_ret3
  exact ⟨⟨x1, c1, x2, c2, rfl, h1, h2, h3, h4⟩, _, rfl⟩
set_option maxHeartbeats 400000 in
theorem splitString_list (a : Option Addr) (n c : Nat) (L : Nat → Nat) (hL : ∀ i, L i < 256) (w : World) (R : Nat) (hE : Errs w R) (hb : BR w R a n L) (hc : n ≤ c) (hn : n ≤ 4194304) (hg : (headH n L).good = true) (hl : (headH n L).list = true) :
    Calls Tryf.prog 29 #[.slice a n c] w fun e w' => StrNo w R L (headH n L) e ∧ ∃ k, w' = w.drewN k := by
  have HG : Hid ((headH n L).good = true) := hg
  have HL : Hid ((headH n L).list = true) := hl
  have HS : Hid ((headH n L).shown = true) := (headH_fits n L).sh hg
  obtain ⟨v, e1, a1, s, rfl, ha, hcs⟩ := hE.e1
  clear hg hl
  go_enter Tryf.func29, Tryf.ntmps29
  go_wp2_with fail
  refine (split_ok a n c L hL w R hE hb hc hn 1 HG.out (by rw [HL.out]; rfl)).mono ?_
  rintro e w' ⟨⟨x1, c1, x2, c2, rfl, h1, h2, h3, h4⟩, k, rfl⟩
  go_wp2
  go_ret3
  exact ⟨⟨some x1, _, c1, _, _, _, a1, s, rfl, ha, hcs, fun _ => ⟨x1, c1, rfl, h1, h3⟩, (fun e => by rw [HS.out] at e; cases e)⟩, _, rfl⟩
set_option maxHeartbeats 400000 in
theorem splitString_bad (a : Option Addr) (n c : Nat) (L : Nat → Nat) (hL : ∀ i, L i < 256) (w : World) (R : Nat) (hE : Errs w R) (hb : BR w R a n L) (hc : n ≤ c) (hn : n ≤ 4194304) (hg : (headH n L).good = false) :
    Calls Tryf.prog 29 #[.slice a n c] w fun e w' => StrNo w R L (headH n L) e ∧ ∃ k, w' = w.drewN k := by
  have HG : Hid ((headH n L).good = false) := hg
  clear hg
  go_enter Tryf.func29, Tryf.ntmps29
  go_wp2_with fail
  refine (split_bad a n c L hL w R hE hb hc hn HG.out).mono ?_
  rintro e w' ⟨⟨k0, a1, m1, c1, a2, m2, c2, a3, s, rfl, h1, h2, h3, h4⟩, k, rfl⟩
  have H3 : Hid ((headH n L).shown = true → Sl w R (.slice a1 m1 c1) ((headH n L).stop - (headH n L).start) (fun i => L ((headH n L).start + i))) := h3
  have H4 : Hid ((headH n L).shown = false → a1 = none ∧ m1 = 0 ∧ c1 = 0) := h4
  clear h3 h4
  go_wp2
  go_ret3
  exact ⟨⟨a1, m1, c1, a2, m2, c2, a3, s, rfl, h1, h2, H3.out, H4.out⟩, _, rfl⟩
/-- No plain, well-formed byte string: an error comes back. -/
theorem splitString_no (a : Option Addr) (n c : Nat) (L : Nat → Nat) (hL : ∀ i, L i < 256) (w : World) (R : Nat) (hE : Errs w R) (hb : BR w R a n L) (hc : n ≤ c) (hn : n ≤ 4194304) (hg : ¬ ((headH n L).good = true ∧ (headH n L).list = false)) :
    Calls Tryf.prog 29 #[.slice a n c] w fun e w' => StrNo w R L (headH n L) e ∧ ∃ k, w' = w.drewN k := by
  cases h1 : (headH n L).good
  · exact splitString_bad a n c L hL w R hE hb hc hn h1
  · cases h2 : (headH n L).list
    · exact absurd ⟨h1, h2⟩ hg
    · exact splitString_list a n c L hL w R hE hb hc hn h1 h2
end Go.Proofs.Qxb6604339aFmt
