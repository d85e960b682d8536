/- Slices of bytes that lie below the reader; the sentinels; splitShort: function 39. -/
import Derived.Test.Qxb6604339aFmtMem
import Derived.Test.Qxb6604339aFmtPlain
namespace Go.Proofs.Qxb6604339aFmt
open Go.RowKit

/-- A slice of bytes: n of them, L; they lie below block R. -/
def BR (w : World) (R : Nat) (a : Option Addr) (n : Nat) (L : Nat → Nat) : Prop :=
  (a = none → n = 0) ∧ ∀ x, a = some x → ∀ i, i < n → w.cell? (x.add i) = some (.int .u8 (L i : Nat)) ∧ x.block < R

theorem add_add (x : Addr) (l i : Nat) : (x.add l).add i = x.add (l + i) := by
  unfold Addr.add
  by_cases h1 : l = 0
  · subst h1; simp
  · by_cases h2 : i = 0
    · subst h2; simp
    · simp [h1, h2, Nat.add_assoc]
theorem add_block (x : Addr) (l : Nat) : (x.add l).block = x.block := by unfold Addr.add; split <;> rfl

theorem BR.below {w w' : World} {R : Nat} {a : Option Addr} {n : Nat} {L : Nat → Nat} (h : BR w R a n L) (hb : Below R w w') : BR w' R a n L :=
  ⟨h.1, fun x hx i hi => ⟨(hb.cell (by rw [add_block]; exact (h.2 x hx i hi).2)).trans (h.2 x hx i hi).1, (h.2 x hx i hi).2⟩⟩
theorem BR.at {w : World} {R : Nat} {a : Option Addr} {n : Nat} {L : Nat → Nat} (h : BR w R a n L) (hn : 0 < n) :
    ∃ b o, a = some ⟨b, o, none⟩ ∧ b < R ∧ ∀ i, i < n → w.cell? ⟨b, o + i, none⟩ = some (.int .u8 (L i : Nat)) := by
  cases a with
  | none => have := h.1 rfl; omega
  | some x =>
    have h0 := h.2 x rfl 0 hn
    obtain ⟨b, o, rfl⟩ := addr_plain (x := x) (by simpa [Addr.add] using h0.1)
    exact ⟨b, o, rfl, h0.2, fun i hi => by rw [← add_lit]; exact (h.2 _ rfl i hi).1⟩
theorem BR.take {w : World} {R : Nat} {a : Option Addr} {n m : Nat} {L : Nat → Nat} (h : BR w R a n L) (hm : m ≤ n) : BR w R a m L :=
  ⟨fun e => by have := h.1 e; omega, fun x hx i hi => h.2 x hx i (by omega)⟩
theorem BR.congr {w : World} {R : Nat} {a : Option Addr} {n : Nat} {L L' : Nat → Nat} (h : BR w R a n L) (e : ∀ i, i < n → L i = L' i) : BR w R a n L' :=
  ⟨h.1, fun x hx i hi => by rw [← e i hi]; exact h.2 x hx i hi⟩
theorem BR.drop {w : World} {R : Nat} {x : Addr} {n c l : Nat} {L : Nat → Nat} (h : BR w R (some x) n L) (hn : n ≤ c) :
    BR w R (if c = l then some x else some (x.add l)) (n - l) (fun i => L (l + i)) := by
  refine ⟨fun e => (by split at e <;> cases e), fun y hy i hi => ?_⟩
  rw [if_neg (by omega)] at hy
  cases hy
  rw [add_add, add_block]
  exact h.2 x rfl (l + i) (by omega)

/-- A slice that is not nil. -/
def Sl (w : World) (R : Nat) (v : Value) (n : Nat) (L : Nat → Nat) : Prop := ∃ x c, v = .slice (some x) n c ∧ n ≤ c ∧ BR w R (some x) n L
theorem Sl.below {w w' : World} {R : Nat} {v : Value} {n : Nat} {L : Nat → Nat} (h : Sl w R v n L) (hb : Below R w w') : Sl w' R v n L := by
  obtain ⟨x, c, rfl, hc, hr⟩ := h
  exact ⟨x, c, rfl, hc, hr.below hb⟩
theorem Sl.take {w : World} {R : Nat} {x : Addr} {n c m : Nat} {L : Nat → Nat} (h : BR w R (some x) n L) (hn : n ≤ c) (hm : m ≤ n) : Sl w R (.slice (some x) m c) m L :=
  ⟨x, c, rfl, by omega, h.take hm⟩
/-- Where 'b[l:]' begins, under a name. -/
theorem BR.drop' {w : World} {R : Nat} {x : Addr} {n c : Nat} {L : Nat → Nat} (h : BR w R (some x) n L) (hn : n ≤ c) (l : Nat) :
    ∃ y, (if c = l then some x else some (x.add l)) = some y ∧ BR w R (some y) (n - l) (fun i => L (l + i)) := by
  have := h.drop (l := l) hn
  by_cases e : c = l
  · rw [if_pos e] at this ⊢
    exact ⟨x, rfl, this⟩
  · rw [if_neg e] at this ⊢
    exact ⟨_, rfl, this⟩
theorem Sl.of {w : World} {R : Nat} {x : Addr} {n c : Nat} {L : Nat → Nat} (h : BR w R (some x) n L) (hn : n ≤ c) : Sl w R (.slice (some x) n c) n L := ⟨x, c, rfl, hn, h⟩

/-- An error of errors.New's make. -/
def IsErr (w : World) (R : Nat) (v : Value) : Prop := ∃ a s, v = .iface 66 (.pointer (some a)) ∧ a.block < R ∧ w.cell? a = some (.string s)
/-- The sentinels that reading bytes comes to. -/
structure Errs (w : World) (R : Nat) : Prop where
  four : 4 ≤ R
  e0 : ∃ v, w.cell? ⟨0, 0, none⟩ = some v ∧ IsErr w R v
  e1 : ∃ v, w.cell? ⟨1, 0, none⟩ = some v ∧ IsErr w R v
  e3 : ∃ v, w.cell? ⟨3, 0, none⟩ = some v ∧ IsErr w R v
theorem IsErr.below {w w' : World} {R : Nat} {v : Value} (h : IsErr w R v) (hb : Below R w w') : IsErr w' R v := by
  obtain ⟨a, s, rfl, ha, hs⟩ := h
  exact ⟨a, s, rfl, ha, (hb.cell ha).trans hs⟩
theorem Errs.below {w w' : World} {R : Nat} (h : Errs w R) (hb : Below R w w') : Errs w' R := by
  have h4 := h.four
  have go : ∀ g, g < 4 → (∃ v, w.cell? ⟨g, 0, none⟩ = some v ∧ IsErr w R v) → ∃ v, w'.cell? ⟨g, 0, none⟩ = some v ∧ IsErr w' R v := fun g hg ⟨v, h1, h2⟩ => ⟨v, (hb.cell (by simp only; omega)).trans h1, h2.below hb⟩
  exact ⟨h4, go 0 (by omega) h.e0, go 1 (by omega) h.e1, go 3 (by omega) h.e3⟩
theorem IsErr.mono {w : World} {R R' : Nat} {v : Value} (h : IsErr w R v) (hR : R ≤ R') : IsErr w R' v := by
  obtain ⟨a, s, rfl, ha, hs⟩ := h
  exact ⟨a, s, rfl, by omega, hs⟩
theorem Errs.mono {w : World} {R R' : Nat} (h : Errs w R) (hR : R ≤ R') : Errs w R' := by
  obtain ⟨h4, ⟨v0, a0, b0⟩, ⟨v1, a1, b1⟩, v3, a3, b3⟩ := h
  exact ⟨by omega, ⟨v0, a0, b0.mono hR⟩, ⟨v1, a1, b1.mono hR⟩, v3, a3, b3.mono hR⟩
/-- The sentinel that reading a number comes to besides. -/
def ErrU (w : World) (R : Nat) : Prop := 4 ≤ R ∧ ∃ v, w.cell? ⟨2, 0, none⟩ = some v ∧ IsErr w R v
theorem ErrU.below {w w' : World} {R : Nat} (h : ErrU w R) (hb : Below R w w') : ErrU w' R := by
  obtain ⟨h4, v, h1, h2⟩ := h
  exact ⟨h4, v, (hb.cell (by simp only; omega)).trans h1, h2.below hb⟩
theorem ErrU.mono {w : World} {R R' : Nat} (h : ErrU w R) (hR : R ≤ R') : ErrU w R' := by
  obtain ⟨h4, v, h1, h2⟩ := h
  exact ⟨by omega, v, h1, h2.mono hR⟩
theorem BR.mono {w : World} {R R' : Nat} {a : Option Addr} {n : Nat} {L : Nat → Nat} (h : BR w R a n L) (hR : R ≤ R') : BR w R' a n L :=
  ⟨h.1, fun x hx i hi => ⟨(h.2 x hx i hi).1, Nat.lt_of_lt_of_le (h.2 x hx i hi).2 hR⟩⟩
theorem BR.ofI {w : World} {a : Option Addr} {n : Nat} {L : Nat → Nat} (h : IRow .u8 w a n (fun i => (L i : Int))) : BR w w.heap.size a n L :=
  ⟨h.1, fun x hx i hi => ⟨h.2 x hx i hi, by have := World.block_lt_of_cell? _ _ (h.2 x hx i hi); rwa [add_block] at this⟩⟩
theorem BR.toI {w : World} {R : Nat} {a : Option Addr} {n : Nat} {L : Nat → Nat} (h : BR w R a n L) : IRow .u8 w a n (fun i => (L i : Int)) :=
  ⟨h.1, fun x hx i hi => (h.2 x hx i hi).1⟩

set_option maxHeartbeats 400000 in
theorem splitShort_no (x : Addr) (n c size : Nat) (w : World) (R : Nat) (hE : Errs w R) (hs : n < size) :
    Calls Tryf.prog 39 #[.slice (some x) n c, .int .i64 size] w fun e w' => (∃ v, e = .returned (.tuple #[.slice none 0 0, .slice none 0 0, v]) ∧ IsErr w R v) ∧ ∃ k, w' = w.drewN k := by
  obtain ⟨v, h3, a, s, rfl, ha, hc⟩ := hE.e3
  go_enter Tryf.func39, Tryf.ntmps39
  go_wp2
  go_quiet (fail)
  go_wp2
  go_ret3
  exact ⟨⟨_, rfl, a, s, rfl, ha, hc⟩, _, rfl⟩

set_option maxHeartbeats 400000 in
theorem splitShort_yes (x : Addr) (n c size : Nat) (L : Nat → Nat) (w : World) (R : Nat) (hb : BR w R (some x) n L) (hc : n ≤ c) (hs : size ≤ n) :
    Calls Tryf.prog 39 #[.slice (some x) n c, .int .i64 size] w fun e w' => (∃ v1 v2, e = .returned (.tuple #[v1, v2, .nilIface]) ∧ Sl w R v1 size L ∧ Sl w R v2 (n - size) (fun i => L (size + i))) ∧ ∃ k, w' = w.drewN k := by
  have H1 : Hid (Sl w R (.slice (some x) size c) size L) := Sl.take hb hc hs
  obtain ⟨y, hy, hr⟩ := hb.drop' hc size
  have H2 : Hid (Sl w R (.slice (some y) (n - size) (c - size)) (n - size) (fun i => L (size + i))) := Sl.of hr (by omega)
  clear hb hr
  go_enter Tryf.func39, Tryf.ntmps39
  go_wp2
  go_quiet (fail)
  go_wp2
  go_ret3
  exact ⟨⟨_, _, rfl, H1.out, H2.out⟩, _, rfl⟩
end Go.Proofs.Qxb6604339aFmt
