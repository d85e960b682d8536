/- Rows of cells as the walks are told of them; how they stay under 'Below'. -/
import Derived.Test.Qxb6604339aFmtProg
import Derived.WalkKit
import Derived.WalkLawsBesides
import Derived.WalkSpells
import Derived.Deep.OwnRows
import Derived.Deep.QuietTactic
import Derived.BigQuiet
import Derived.KernelRfl
namespace Go.Proofs.Qxb6604339aFmt
open Go.RowKit

/-- A slice of integers: its cells up to n hold Z. -/
def IRow (k : IntKind) (w : World) (a : Option Addr) (n : Nat) (Z : Nat → Int) : Prop :=
  (a = none → n = 0) ∧ ∀ x, a = some x → ∀ i, i < n → w.cell? (x.add i) = some (.int k (Z i))
theorem cell_below {w w' : World} {p : Addr} {v : Value} (hb : Below w.heap.size w w') (h : w.cell? p = some v) : w'.cell? p = some v :=
  (hb.cell (World.block_lt_of_cell? w p h)).trans h

theorem IRow.below {k : IntKind} {w w' : World} {a : Option Addr} {n : Nat} {Z : Nat → Int} (h : IRow k w a n Z) (hb : Below w.heap.size w w') : IRow k w' a n Z :=
  ⟨h.1, fun x hx i hi => cell_below hb (h.2 x hx i hi)⟩
theorem addr_plain {w : World} {x : Addr} {v : Value} (h : w.cell? x = some v) : ∃ b o, x = ⟨b, o, none⟩ := by
  obtain ⟨b, o, s⟩ := x
  have := World.cell?_spot h
  simp only at this
  subst this
  exact ⟨b, o, rfl⟩
theorem add_lit (b o i : Nat) : (⟨b, o, none⟩ : Addr).add i = ⟨b, o + i, none⟩ := by unfold Addr.add; split <;> simp_all

/-- With an element: the address is plain. -/
theorem IRow.at {k : IntKind} {w : World} {a : Option Addr} {n : Nat} {Z : Nat → Int} (h : IRow k w a n Z) (hn : 0 < n) :
    ∃ b o, a = some ⟨b, o, none⟩ ∧ ∀ i, i < n → w.cell? ⟨b, o + i, none⟩ = some (.int k (Z i)) := by
  cases a with
  | none => have := h.1 rfl; omega
  | some x =>
    have h0 := h.2 x rfl 0 hn
    obtain ⟨b, o, rfl⟩ := addr_plain (x := x) (by simpa [Addr.add] using h0)
    exact ⟨b, o, rfl, fun i hi => by rw [← add_lit]; exact h.2 _ rfl i hi⟩
theorem IRow.of_row {k : IntKind} {w : World} {b : Nat} {t : TypeId} {n : Nat} {Z : Nat → Int} (h : w.rowIs b t n (fun i => .int k (Z i))) : IRow k w (some ⟨b, 0, none⟩) n Z :=
  ⟨by simp, fun x hx i hi => by cases hx; rw [add_lit, Nat.zero_add]; exact h.cell hi⟩
/-- What a clone's loop says: the first k cells are copied, the rest zero. -/
theorem row_step {w : World} {b : Nat} {t : TypeId} {n k : Nat} {f : Nat → Value} {z : Value} (h : w.rowIs b t n (fun i => if i < k then f i else z)) :
    (w.setCell ⟨b, k, none⟩ (f k)).rowIs b t n (fun i => if i < k + 1 then f i else z) :=
  (h.set k (f k)).congr fun i _ => by
    show (if i = k then f k else if i < k then f i else z) = if i < k + 1 then f i else z
    by_cases e : i = k
    · subst e; simp
    · rw [if_neg e]
      by_cases e2 : i < k
      · rw [if_pos e2, if_pos (by omega)]
      · rw [if_neg e2, if_neg (by omega)]
theorem row_done {w : World} {b : Nat} {t : TypeId} {n : Nat} {f : Nat → Value} {z : Value} (h : w.rowIs b t n (fun i => if i < n then f i else z)) : w.rowIs b t n f :=
  h.congr fun i hi => by simp [hi]

/-- It answers a bool; if the bool is true, p holds. -/
def BoolOf (p : Prop) (e : Ending) : Prop := ∃ b : Bool, e = .returned (.bool b) ∧ (b = true → p)
theorem BoolOf.no {p : Prop} : BoolOf p (.returned (.bool false)) := ⟨false, rfl, by simp⟩
theorem BoolOf.yes {p : Prop} (h : p) : BoolOf p (.returned (.bool true)) := ⟨true, rfl, fun _ => h⟩
theorem BoolOf.triv {b : Bool} : BoolOf True (.returned (.bool b)) := ⟨b, rfl, fun _ => trivial⟩

theorem Tryf.info5 : (Tryf.prog.info? 5).map (fun i => (i.zero, i.size, i.bytes)) = some (some (.int .u8 0), 1, 1) := by kernel_rfl
end Go.Proofs.Qxb6604339aFmt
