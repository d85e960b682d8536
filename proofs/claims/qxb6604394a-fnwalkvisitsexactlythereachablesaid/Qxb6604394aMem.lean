/- Rows of cells as the walks are told of them; how they stay under 'Below'. -/
import Derived.Test.Qxb6604394aProg
import Derived.WalkKit
import Derived.WalkLawsBesides
import Derived.WalkSpells
import Derived.Deep.OwnRows
import Derived.Deep.QuietTactic
import Derived.BigQuiet
import Derived.KernelRfl
import Derived.OneCell
import Derived.Laws.CopyOwn
import Derived.Laws.OwnMore
namespace Go.Proofs.Qxb6604394a
open Go.RowKit

/-- A []uint32 (or []Value): its cells up to n hold Z. -/
def URow (w : World) (a : Option Addr) (n : Nat) (Z : Nat → Nat) : Prop :=
  (a = none → n = 0) ∧ ∀ x, a = some x → ∀ i, i < n → w.cell? (x.add i) = some (.int .u32 (Z i : Nat))
/-- A [][]uint32. -/
structure GRow (w : World) (a : Option Addr) (n : Nat) (A : Nat → Option Addr) (L C : Nat → Nat) (Z : Nat → Nat → Nat) : Prop where
  nil : a = none → n = 0
  cells : ∀ x, a = some x → ∀ i, i < n → w.cell? (x.add i) = some (.slice (A i) (L i) (C i))
  rows : ∀ i, i < n → URow w (A i) (L i) (Z i)

theorem cell_below {w w' : World} {p : Addr} {v : Value} (hb : Below w.heap.size w w') (h : w.cell? p = some v) : w'.cell? p = some v :=
  (hb.cell (World.block_lt_of_cell? w p h)).trans h
theorem bstep {w w1 w2 : World} (h : Below w.heap.size w w1) (k : Below w1.heap.size w1 w2) : Below w.heap.size w w2 := h.trans (k.mono h.size)
theorem URow.below {w w' : World} {a : Option Addr} {n : Nat} {Z : Nat → Nat} (h : URow w a n Z) (hb : Below w.heap.size w w') : URow w' a n Z :=
  ⟨h.1, fun x hx i hi => cell_below hb (h.2 x hx i hi)⟩
theorem GRow.below {w w' : World} {a : Option Addr} {n : Nat} {A : Nat → Option Addr} {L C : Nat → Nat} {Z : Nat → Nat → Nat} (h : GRow w a n A L C Z) (hb : Below w.heap.size w w') : GRow w' a n A L C Z :=
  ⟨h.nil, fun x hx i hi => cell_below hb (h.cells x hx i hi), fun i hi => (h.rows i hi).below hb⟩

theorem addr_plain {w : World} {x : Addr} {v : Value} (h : w.cell? x = some v) : ∃ b o, x = ⟨b, o, none⟩ := by
  obtain ⟨b, o, s⟩ := x
  have := World.cell?_spot h
  simp only at this
  subst this
  exact ⟨b, o, rfl⟩
theorem add_lit (b o i : Nat) : (⟨b, o, none⟩ : Addr).add i = ⟨b, o + i, none⟩ := by unfold Addr.add; split <;> simp_all

/-- With an element: the address is plain. -/
theorem URow.at {w : World} {a : Option Addr} {n : Nat} {Z : Nat → Nat} (h : URow w a n Z) (hn : 0 < n) :
    ∃ b o, a = some ⟨b, o, none⟩ ∧ ∀ i, i < n → w.cell? ⟨b, o + i, none⟩ = some (.int .u32 (Z i : Nat)) := by
  cases a with
  | none => have := h.1 rfl; omega
  | some x =>
    have h0 := h.2 x rfl 0 hn
    obtain ⟨b, o, rfl⟩ := addr_plain (x := x) (by simpa [Addr.add] using h0)
    exact ⟨b, o, rfl, fun i hi => by rw [← add_lit]; exact h.2 _ rfl i hi⟩
theorem GRow.at {w : World} {a : Option Addr} {n : Nat} {A : Nat → Option Addr} {L C : Nat → Nat} {Z : Nat → Nat → Nat} (h : GRow w a n A L C Z) (hn : 0 < n) :
    ∃ b o, a = some ⟨b, o, none⟩ ∧ ∀ i, i < n → w.cell? ⟨b, o + i, none⟩ = some (.slice (A i) (L i) (C i)) := by
  cases a with
  | none => have := h.nil rfl; omega
  | some x =>
    have h0 := h.cells x rfl 0 hn
    obtain ⟨b, o, rfl⟩ := addr_plain (x := x) (by simpa [Addr.add] using h0)
    exact ⟨b, o, rfl, fun i hi => by rw [← add_lit]; exact h.cells _ rfl i hi⟩
theorem URow.of_row {w : World} {b : Nat} {t : TypeId} {n : Nat} {Z : Nat → Nat} (h : w.rowIs b t n (fun i => .int .u32 (Z i : Nat))) : URow w (some ⟨b, 0, none⟩) n Z :=
  ⟨by simp, fun x hx i hi => by cases hx; rw [add_lit, Nat.zero_add]; exact h.cell hi⟩

/-- What a clone's loop says: the first k cells are copied, the rest zero. -/
theorem row_step {w : World} {b : Nat} {t : TypeId} {n k : Nat} {f : Nat → Value} {z : Value} (h : w.rowIs b t n (fun i => if i < k then f i else z)) (v : Value) (f' : Nat → Value) (hv : f' k = v) (hf : ∀ i, i < k → f' i = f i) :
    (w.setCell ⟨b, k, none⟩ v).rowIs b t n (fun i => if i < k + 1 then f' i else z) :=
  (h.set k v).congr fun i _ => by
    show (if i = k then v else if i < k then f i else z) = if i < k + 1 then f' i else z
    by_cases e : i = k
    · subst e; simp [hv]
    · rw [if_neg e]
      by_cases e2 : i < k
      · rw [if_pos e2, if_pos (by omega), hf i e2]
      · rw [if_neg e2, if_neg (by omega)]
theorem row_done {w : World} {b : Nat} {t : TypeId} {n : Nat} {f : Nat → Value} {z : Value} (h : w.rowIs b t n (fun i => if i < n then f i else z)) : w.rowIs b t n f :=
  h.congr fun i hi => by simp [hi]

/-- It answers a bool; if the bool is true, p holds. -/
def BoolOf (p : Prop) (e : Ending) : Prop := ∃ b : Bool, e = .returned (.bool b) ∧ (b = true → p)
theorem BoolOf.no {p : Prop} : BoolOf p (.returned (.bool false)) := ⟨false, rfl, by simp⟩
theorem BoolOf.yes {p : Prop} (h : p) : BoolOf p (.returned (.bool true)) := ⟨true, rfl, fun _ => h⟩
theorem BoolOf.triv {b : Bool} : BoolOf True (.returned (.bool b)) := ⟨b, rfl, fun _ => trivial⟩

theorem info36 : (Try.prog.info? 36).map (fun i => (i.zero, i.size, i.bytes)) = some (some (.int .u32 0), 1, 4) := by kernel_rfl
theorem info51 : (Try.prog.info? 51).map (fun i => (i.zero, i.size, i.bytes)) = some (some (.int .u32 0), 1, 4) := by kernel_rfl
theorem info30 : (Try.prog.info? 30).map (fun i => (i.zero, i.size, i.bytes)) = some (some (.slice none 0 0), 1, 24) := by kernel_rfl
theorem info4 : (Try.prog.info? 4).map (fun i => (i.zero, i.size, i.bytes)) = some (some (.bool false), 1, 1) := by kernel_rfl
theorem info3 : (Try.prog.info? 3).map (fun i => (i.zero, i.size, i.bytes)) = some (some (.int .i64 0), 1, 8) := by kernel_rfl
theorem nil30 (w : World) (a : Option Addr) (n c : Nat) : (binOp .eql 30 (.slice a n c) (.slice none 0 0)).run Try.prog w = .ok (.bool a.isNone) w := Lib.run_eql_slice_nil w 30 36 a n c 0 0 Try.underlying30
theorem nil31 (w : World) (a : Option Addr) (n c : Nat) : (binOp .eql 31 (.slice a n c) (.slice none 0 0)).run Try.prog w = .ok (.bool a.isNone) w := Lib.run_eql_slice_nil w 31 30 a n c 0 0 Try.underlying31
theorem neq30 (w : World) (a : Option Addr) (n c : Nat) : (binOp .neq 30 (.slice a n c) (.slice none 0 0)).run Try.prog w = .ok (.bool !a.isNone) w := run_neq_slice_nil_any w 30 36 a n c 0 0 Try.underlying30
end Go.Proofs.Qxb6604394a
