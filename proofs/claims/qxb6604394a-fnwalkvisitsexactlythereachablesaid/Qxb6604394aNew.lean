/- ZZnewWalkState: function 18. -/
import Derived.Test.Qxb6604394aFirst
namespace Go.Proofs.Qxb6604394a
open Go.RowKit

theorem info58 : (Try.prog.info? 58).map (fun i => (i.zero.map Value.cells, i.size, i.bytes)) = some (some #[.int .u8 0, .int .i64 0, .int .u32 0, .int .i32 0, .int .i64 0, .int .i64 0, .slice none 0 0, .slice none 0 0, .slice none 0 0, .slice none 0 0], 10, 136) := by kernel_rfl
theorem info61 : (Try.prog.info? 61).map (fun i => (i.zero.map Value.cells, i.size, i.bytes)) = some (some #[.int .u32 0, .int .i64 0, .int .i64 0, .bool false], 4, 32) := by kernel_rfl

theorem make_many {t e : TypeId} {cs : Array Value} {size bytes : Nat} (ht : Try.prog.underlying t = some (.slice e)) (hinfo : (Try.prog.info? e).map (fun i => (i.zero.map Value.cells, i.size, i.bytes)) = some (some cs, size, bytes)) (n : Nat) (hb : bytes * n ≤ 281474976710656) (hn : n ≤ 1048576) (w : World) :
    (Instr.makeSlice t (.int .i64 (n : Int)) (.int .i64 (n : Int))).run Try.prog w = .ok (.slice (some ⟨w.heap.size, 0, none⟩) n n) (w.alloc (.cells (madeCells cs (n * size)) e)) := by
  obtain ⟨i, hi, hzz⟩ := Option.map_eq_some_iff.1 hinfo
  simp only [Prod.mk.injEq] at hzz
  obtain ⟨hz, hs, hby⟩ := hzz
  obtain ⟨z, hz, hzc⟩ := Option.map_eq_some_iff.1 hz
  have hb' : (i.bytes : Int) * (n : Int) ≤ 281474976710656 := by
    have h : ((i.bytes * n : Nat) : Int) ≤ 281474976710656 := by rw [hby]; omega
    rwa [Int.natCast_mul] at h
  have hr := run_make (P := Try.prog) w t e i z ht hi hz .i64 .i64 n n (by omega) (Int.le_refl _) hb' (by omega)
  simp only [Int.toNat_natCast, hs, hzc] at hr
  exact hr
theorem row_many (w : World) (cs : Array Value) (N : Nat) (t : TypeId) : (w.alloc (.cells (madeCells cs N) t)).rowIs w.heap.size t N (fun i => cs[i % cs.size]!) :=
  ⟨_, heap_alloc_new _ _, size_madeCells _ _, fun i hi => by simp [madeCells, hi]⟩

/-- A []Sent of which Val alone is not zero. -/
def QRow (w : World) (a : Option Addr) (n : Nat) (Z : Nat → Nat) : Prop := SRow w w.heap.size a n Z
theorem QRow.below {w w' : World} {a : Option Addr} {n : Nat} {Z : Nat → Nat} (h : QRow w a n Z) (hb : Below w.heap.size w w') : QRow w' a n Z :=
  ⟨h.1, fun x hx i hi => by
    obtain ⟨a1, a2, a3, a4, a5⟩ := h.2 x hx i hi
    exact ⟨cell_below hb a1, cell_below hb a2, cell_below hb a3, cell_below hb a4, Nat.lt_of_lt_of_le a5 hb.size⟩⟩

structure NS (w wr : World) (n k : Nat) (V PL BL : Nat → Nat) (PZ BZ : Nat → Nat → Nat) (f : Nat → Value) : Prop where
  bel : Below w.heap.size w wr
  row : wr.rowIs w.heap.size 58 (n * 10) f
  c2 : ∀ i, i < k → f (i * 10 + 2) = .int .u32 (V i : Nat)
  c6 : ∀ i, i < k → ∃ a c, f (i * 10 + 6) = .slice a (BL i) c ∧ QRow wr a (BL i) (BZ i) ∧ ∀ x, a = some x → w.heap.size < x.block
  c7 : ∀ i, i < k → ∃ a c, f (i * 10 + 7) = .slice a (PL i) c ∧ URow wr a (PL i) (PZ i) ∧ ∀ x, a = some x → w.heap.size < x.block
  z6 : ∀ i, k ≤ i → i < n → f (i * 10 + 6) = .slice none 0 0

section
variable {w wr w2 : World} {n k : Nat} {V PL BL : Nat → Nat} {PZ BZ : Nat → Nat → Nat} {f : Nat → Value}
theorem NS.grow (h : NS w wr n k V PL BL PZ BZ f) (hb : Below wr.heap.size wr w2) : NS w w2 n k V PL BL PZ BZ f :=
  ⟨bstep h.bel hb, h.row.of_block (hb.block _ h.row.lt), h.c2,
    fun i hi => by obtain ⟨a, c, h1, h2, h3⟩ := h.c6 i hi; exact ⟨a, c, h1, h2.below hb, h3⟩,
    fun i hi => by obtain ⟨a, c, h1, h2, h3⟩ := h.c7 i hi; exact ⟨a, c, h1, h2.below hb, h3⟩, h.z6⟩
theorem URow.setFar {a : Option Addr} {m : Nat} {Z : Nat → Nat} (h : URow w a m Z) {p : Addr} (hp : ∀ x, a = some x → p.block < x.block) (v : Value) : URow (w.setCell p v) a m Z :=
  ⟨h.1, fun x hx i hi => by
    rw [World.cell?_setCell_other (h := fun e => by have := hp x hx; rw [e, add_block] at this; omega)]
    exact h.2 x hx i hi⟩
theorem QRow.setFar {a : Option Addr} {m : Nat} {Z : Nat → Nat} (h : QRow w a m Z) {p : Addr} (hp : ∀ x, a = some x → p.block < x.block) (v : Value) : QRow (w.setCell p v) a m Z :=
  ⟨h.1, fun x hx i hi => by
    obtain ⟨a1, a2, a3, a4, a5⟩ := h.2 x hx i hi
    have e : ∀ j, p ≠ x.add j := fun j e => by have := hp x hx; rw [e, add_block] at this; omega
    exact ⟨by rw [World.cell?_setCell_other (h := e _)]; exact a1, by rw [World.cell?_setCell_other (h := e _)]; exact a2, by rw [World.cell?_setCell_other (h := e _)]; exact a3, by rw [World.cell?_setCell_other (h := e _)]; exact a4, by simpa [World.setCell] using a5⟩⟩
theorem NS.set (h : NS w wr n k V PL BL PZ BZ f) (d : Nat) (hd : d < 10) (h6 : d ≠ 6) (v : Value) : NS w (wr.setCell ⟨w.heap.size, k * 10 + d, none⟩ v) n k V PL BL PZ BZ (up f (k * 10 + d) v) := by
  have e : ∀ i c, i < k → c < 10 → up f (k * 10 + d) v (i * 10 + c) = f (i * 10 + c) := fun i c hi hc => up_ne _ _ _ (by omega)
  refine ⟨h.bel.setCell (Nat.le_refl _) _, h.row.set _ _, fun i hi => by rw [e i 2 hi (by omega)]; exact h.c2 i hi, fun i hi => ?_, fun i hi => ?_, fun i h1 h2 => by rw [up_ne _ _ _ (by omega)]; exact h.z6 i h1 h2⟩
  · obtain ⟨a, c, h1, h2, h3⟩ := h.c6 i hi
    exact ⟨a, c, by rw [e i 6 hi (by omega)]; exact h1, h2.setFar h3 v, h3⟩
  · obtain ⟨a, c, h1, h2, h3⟩ := h.c7 i hi
    exact ⟨a, c, by rw [e i 7 hi (by omega)]; exact h1, h2.setFar h3 v, h3⟩
theorem NS.next (h : NS w wr n k V PL BL PZ BZ f) (h2 : f (k * 10 + 2) = .int .u32 (V k : Nat)) (h6 : ∃ a c, f (k * 10 + 6) = .slice a (BL k) c ∧ QRow wr a (BL k) (BZ k) ∧ ∀ x, a = some x → w.heap.size < x.block) (h7 : ∃ a c, f (k * 10 + 7) = .slice a (PL k) c ∧ URow wr a (PL k) (PZ k) ∧ ∀ x, a = some x → w.heap.size < x.block) : NS w wr n (k + 1) V PL BL PZ BZ f := by
  have e : ∀ i, i < k + 1 → i < k ∨ i = k := fun i hi => by omega
  refine ⟨h.bel, h.row, fun i hi => ?_, fun i hi => ?_, fun i hi => ?_, fun i h1 => h.z6 i (by omega)⟩
  · rcases e i hi with hi | rfl
    · exact h.c2 i hi
    · exact h2
  · rcases e i hi with hi | rfl
    · exact h.c6 i hi
    · exact h6
  · rcases e i hi with hi | rfl
    · exact h.c7 i hi
    · exact h7
/-- The buffer goes in last. -/
theorem NS.next6 {b c : Nat} (h : NS w wr n k V PL BL PZ BZ f) (h2 : f (k * 10 + 2) = .int .u32 (V k : Nat)) (hq : QRow wr (some ⟨b, 0, none⟩) (BL k) (BZ k)) (hb : w.heap.size < b) (h7 : ∃ a c, f (k * 10 + 7) = .slice a (PL k) c ∧ URow wr a (PL k) (PZ k) ∧ ∀ x, a = some x → w.heap.size < x.block) :
    NS w (wr.setCell ⟨w.heap.size, k * 10 + 6, none⟩ (.slice (some ⟨b, 0, none⟩) (BL k) c)) n (k + 1) V PL BL PZ BZ (up f (k * 10 + 6) (.slice (some ⟨b, 0, none⟩) (BL k) c)) := by
  have e : ∀ i, i < k + 1 → i < k ∨ i = k := fun i hi => by omega
  have u : ∀ i d, d < 10 → (i ≠ k ∨ d ≠ 6) → up f (k * 10 + 6) (.slice (some ⟨b, 0, none⟩) (BL k) c) (i * 10 + d) = f (i * 10 + d) := fun i d hd hi => up_ne _ _ _ (by omega)
  have far : ∀ x, (some (⟨b, 0, none⟩ : Addr)) = some x → w.heap.size < x.block := fun x hx => by cases hx; exact hb
  refine ⟨h.bel.setCell (Nat.le_refl _) _, h.row.set _ _, fun i hi => ?_, fun i hi => ?_, fun i hi => ?_, fun i h1 hn => by rw [u i 6 (by omega) (.inl (by omega))]; exact h.z6 i (by omega) hn⟩
  · rw [u i 2 (by omega) (.inr (by omega))]
    rcases e i hi with hi | rfl
    · exact h.c2 i hi
    · exact h2
  · rcases e i hi with hi | rfl
    · obtain ⟨a, c', h1, h2, h3⟩ := h.c6 i hi
      exact ⟨a, c', by rw [u i 6 (by omega) (.inl (by omega))]; exact h1, h2.setFar h3 _, h3⟩
    · exact ⟨_, c, up_at _ _ _, hq.setFar far _, far⟩
  · rw [u i 7 (by omega) (.inr (by omega))]
    rcases e i hi with hi | rfl
    · obtain ⟨a, c', h1, h2, h3⟩ := h.c7 i hi
      exact ⟨a, c', h1, h2.setFar h3 _, h3⟩
    · obtain ⟨a, c', h1, h2, h3⟩ := h7
      exact ⟨a, c', h1, h2.setFar h3 _, h3⟩
end

theorem q_of_row {w : World} {b n : Nat} {g : Nat → Value} {Z : Nat → Nat} (h : w.rowIs b 61 (n * 4) g) (h1 : ∀ i, i < n → g (i * 4) = .int .u32 (Z i : Nat)) (h2 : ∀ i, g (i * 4 + 1) = .int .i64 0 ∧ g (i * 4 + 2) = .int .i64 0 ∧ g (i * 4 + 3) = .bool false) : QRow w (some ⟨b, 0, none⟩) n Z := by
  refine ⟨by simp, fun x hx i hi => ?_⟩
  cases hx
  obtain ⟨a2, a3, a4⟩ := h2 i
  refine ⟨?_, ?_, ?_, ?_, h.lt⟩
  · rw [add_lit, Nat.zero_add, h.cell (by omega), h1 i hi]
  · rw [add_lit, Nat.zero_add, h.cell (by omega), a2]
  · rw [add_lit, Nat.zero_add, h.cell (by omega), a3]
  · rw [add_lit, Nat.zero_add, h.cell (by omega), a4]
theorem NS.objs {w wr w' : World} {n S : Nat} {V PL BL : Nat → Nat} {PZ BZ : Nat → Nat → Nat} {f : Nat → Value} (h : NS w wr n n V PL BL PZ BZ f) (hb : Below wr.heap.size wr w') (hS : w'.cell? ⟨S, 1, none⟩ = some (.slice (some ⟨w.heap.size, 0, none⟩) n n)) :
    Below w.heap.size w w' ∧ Objs w' w'.heap.size S w.heap.size n V PL BL PZ BZ := by
  have h' := h.grow hb
  refine ⟨h'.bel, World.block_lt_of_cell? _ _ hS, h'.row.lt, hS, fun i hi => ?_, fun i hi => ?_, fun i hi => ?_⟩
  · rw [h'.row.cell (by omega), h'.c2 i hi]
  · obtain ⟨a, c, h1, h2, _⟩ := h'.c6 i hi
    exact ⟨a, c, by rw [h'.row.cell (by omega), h1], h2⟩
  · obtain ⟨a, c, h1, h2, _⟩ := h'.c7 i hi
    refine ⟨a, c, by rw [h'.row.cell (by omega), h1], h2.1, fun x hx j hj => ⟨h2.2 x hx j hj, ?_⟩⟩
    have := World.block_lt_of_cell? _ _ (h2.2 x hx j hj)
    rwa [add_block] at this

set_option maxRecDepth 100000 in
set_option maxHeartbeats 1000000 in
theorem new_any (w : World) (n vc pc bc : Nat) (va pa ba : Option Addr) (V : Nat → Nat) (PA BA : Nat → Option Addr) (PL PC BL BC : Nat → Nat) (PZ BZ : Nat → Nat → Nat) (hn : n ≤ 1048576) (hPL : ∀ i, i < n → PL i ≤ 1048576) (hBL : ∀ i, i < n → BL i ≤ 1048576)
    (hV : URow w va n V) (hP : GRow w pa n PA PL PC PZ) (hB : GRow w ba n BA BL BC BZ) :
    Calls Try.prog 18 #[.slice va n vc, .slice pa n pc, .slice ba n bc] w fun e w' => ∃ S, e = .returned (.pointer (some ⟨S, 0, none⟩)) ∧ Below w.heap.size w w' ∧ Objs w' w'.heap.size S w.heap.size n V PL BL PZ BZ := by
  have q := neq30
  have hmk := fun w => make_many Try.underlying50 info58 n (by omega) hn w
  have ns0 : NS w (w.alloc (.cells (madeCells #[.int .u8 0, .int .i64 0, .int .u32 0, .int .i32 0, .int .i64 0, .int .i64 0, .slice none 0 0, .slice none 0 0, .slice none 0 0, .slice none 0 0] (n * 10)) 58)) n 0 V PL BL PZ BZ _ :=
    ⟨(Below.refl _ _).alloc (Nat.le_refl _) _, row_many _ _ _ _, fun i hi => absurd hi (Nat.not_lt_zero _), fun i hi => absurd hi (Nat.not_lt_zero _), fun i hi => absurd hi (Nat.not_lt_zero _), fun i _ _ => by
      show _[(i * 10 + 6) % 10]! = _
      rw [show (i * 10 + 6) % 10 = 6 by omega]
      rfl⟩
  have NS0 : Hid (∃ f, NS w (w.alloc (.cells (madeCells #[.int .u8 0, .int .i64 0, .int .u32 0, .int .i32 0, .int .i64 0, .int .i64 0, .slice none 0 0, .slice none 0 0, .slice none 0 0, .slice none 0 0] (n * 10)) 58)) n 0 V PL BL PZ BZ f) := ⟨_, ns0⟩
  have HPL : Hid (∀ i, i < n → PL i ≤ 1048576) := hPL
  have HBL : Hid (∀ i, i < n → BL i ≤ 1048576) := hBL
  clear ns0 hPL hBL
  go_enter Try.func18, Try.ntmps18
  go_wp2
  go_loopw [17] (fun i wr => ∃ k : Nat, k ≤ n ∧ i = .int .i64 k ∧ ∃ f, NS w wr n k V PL BL PZ BZ f) (fun i _ => n - (intOf i).toNat)
  case atStart => exact ⟨0, by omega, rfl, NS0.out⟩
  case round =>
    obtain ⟨k, hk, rfl, f, ns⟩ := hrel
    by_cases hlt : k < n
    · obtain ⟨vb, vo, hva, hvc⟩ := hV.at (by omega)
      obtain ⟨pb, po, hpa, hpc⟩ := hP.at (by omega)
      obtain ⟨bb, bo, hba, hbc⟩ := hB.at (by omega)
      cases hva; cases hpa; cases hba
      have d1 := cell_below ns.bel (hvc k hlt)
      have d2 := hpc k hlt
      have d3 := hbc k hlt
      have r2 := hP.rows k hlt
      have r3 := hB.rows k hlt
      have hpl := HPL.out k hlt
      have hbl := HBL.out k hlt
      have e1 := ns.row.cell (i := k * 10 + 2) (by omega)
      have f1 := ns.row.frozen (k * 10 + 2)
      have ns1 := ns.set 2 (by omega) (by omega) (.int .u32 (V k : Nat))
      have d2' := cell_below ns1.bel d2
      have NS1 : Hid (NS w _ n k V PL BL PZ BZ _) := ns1
      clear hvc hpc hbc ns ns1
      go_wp2_with fail
      refine (values_any (PA k) (PL k) (PC k) (PZ k) _ hpl (r2.below (NS1.out.bel))).mono ?_
      rintro e w2 ⟨a', c', rfl, hb2, hr2, hfar⟩
      have ns2 := NS1.out.grow hb2
      have hlt2 : w.heap.size < w2.heap.size := ns2.row.lt
      have hfar2 : ∀ x, a' = some x → w.heap.size < x.block := fun x hx => Nat.lt_of_lt_of_le NS1.out.row.lt (hfar x hx)
      have e7 := ns2.row.cell (i := k * 10 + 7) (by omega)
      have f7 := ns2.row.frozen (k * 10 + 7)
      have ns3 := ns2.set 7 (by omega) (by omega) (.slice a' (PL k) c')
      have hr3 := hr2.setFar (p := ⟨w.heap.size, k * 10 + 7, none⟩) hfar2 (.slice a' (PL k) c')
      have d3' := cell_below ns3.bel d3
      have r3' := r3.below ns3.bel
      have hf2 : up (up f (k * 10 + 2) (.int .u32 (V k : Nat))) (k * 10 + 7) (.slice a' (PL k) c') (k * 10 + 2) = .int .u32 (V k : Nat) := by rw [up_ne _ _ _ (by omega), up_at]
      have hf7 : up (up f (k * 10 + 2) (.int .u32 (V k : Nat))) (k * 10 + 7) (.slice a' (PL k) c') (k * 10 + 7) = .slice a' (PL k) c' := up_at _ _ _
      have HF2 : Hid (_ = Value.int .u32 (V k : Nat)) := hf2
      have HF7 : Hid (_ = Value.slice a' (PL k) c') := hf7
      have HFAR : Hid (∀ x, a' = some x → w.heap.size < x.block) := hfar2
      have NS3 : Hid (NS w _ n k V PL BL PZ BZ _) := ns3
      have HR3 : Hid (URow _ a' (PL k) (PZ k)) := hr3
      clear hf2 hf7 ns2 ns3 hr3 hr2 hfar hfar2 hb2 NS1 d1 d2 d2' d3 r2 r3 e1 f1
      rcases hBA : BA k with _ | y
      · rw [hBA] at d3' r3'
        have h0 := r3'.1 rfl
        have NS4 : Hid (∃ f, NS w (w2.setCell ⟨w.heap.size, k * 10 + 7, none⟩ (.slice a' (PL k) c')) n (k + 1) V PL BL PZ BZ f) :=
          ⟨_, NS3.out.next HF2.out ⟨none, 0, by rw [NS3.out.z6 k (Nat.le_refl _) hlt, h0], ⟨fun _ => h0, by simp⟩, by simp⟩ ⟨a', c', HF7.out, HR3.out, HFAR.out⟩⟩
        clear h0 r3' hBA
        go_wp2
        go_roundw
        case rel => exact ⟨k + 1, by omega, by go_num, NS4.out⟩
        case measure => simp [intOf]; omega
      · rw [hBA] at d3' r3'
        have hmk2 := fun w => make_many Try.underlying54 info61 (BL k) (by omega) hbl w
        obtain ⟨W3, hW3⟩ : ∃ W3, W3 = (w2.setCell ⟨w.heap.size, k * 10 + 7, none⟩ (.slice a' (PL k) c')) := ⟨_, rfl⟩
        have hsz : W3.heap.size = w2.heap.size := by rw [hW3]; simp [World.setCell]
        have d4 : ((w2.setCell ⟨w.heap.size, k * 10 + 7, none⟩ (.slice a' (PL k) c')).alloc (.cells (madeCells #[.int .u32 0, .int .i64 0, .int .i64 0, .bool false] (BL k * 4)) 61)).cell? ⟨bb, bo + k, none⟩ = some (.slice (some y) (BL k) (BC k)) := cell_below ((Below.refl _ _).alloc (Nat.le_refl _) _) d3'
        have HNS : Hid (NS w W3 n k V PL BL PZ BZ (up (up f (k * 10 + 2) (.int .u32 (V k : Nat))) (k * 10 + 7) (.slice a' (PL k) c'))) := by rw [hW3]; exact NS3.out
        have HUR : Hid (URow W3 a' (PL k) (PZ k)) := by rw [hW3]; exact HR3.out
        have HRY : Hid (URow W3 (some y) (BL k) (BZ k)) := by rw [hW3]; exact r3'
        have HSZ : Hid (W3.heap.size = w2.heap.size) := hsz
        have HR0 : Hid ((W3.alloc (.cells (madeCells #[.int .u32 0, .int .i64 0, .int .i64 0, .bool false] (BL k * 4)) 61)).rowIs w2.heap.size 61 (BL k * 4) (fun i => (#[.int .u32 0, .int .i64 0, .int .i64 0, .bool false] : Array Value)[i % 4]!)) := by
          have := row_many W3 #[.int .u32 0, .int .i64 0, .int .i64 0, .bool false] (BL k * 4) 61
          rw [hsz] at this
          exact this
        have HW3 : Hid (W3 = (w2.setCell ⟨w.heap.size, k * 10 + 7, none⟩ (.slice a' (PL k) c'))) := hW3
        clear hW3 hsz hBA NS3 HR3 r3'
        go_wp2
        rw [← HW3.out]
        clear d3' d4 HW3 e7 f7
        go_loopw [53] (fun i wr => ∃ (j : Nat) (g : Nat → Value), j ≤ BL k ∧ i = .int .i64 j ∧ Below w2.heap.size W3 wr ∧ wr.rowIs w2.heap.size 61 (BL k * 4) g ∧ (∀ i, i < j → g (i * 4) = .int .u32 (BZ k i : Nat)) ∧ ∀ i, g (i * 4 + 1) = .int .i64 0 ∧ g (i * 4 + 2) = .int .i64 0 ∧ g (i * 4 + 3) = .bool false) (fun i _ => BL k - (intOf i).toNat)
        case atStart =>
          refine ⟨0, _, by omega, rfl, (Below.refl _ _).alloc (by rw [HSZ.out]; exact Nat.le_refl _) _, HR0.out, fun i hi => absurd hi (Nat.not_lt_zero _), fun i => ⟨?_, ?_, ?_⟩⟩
          · show _[(i * 4 + 1) % 4]! = _
            rw [show (i * 4 + 1) % 4 = 1 by omega]; rfl
          · show _[(i * 4 + 2) % 4]! = _
            rw [show (i * 4 + 2) % 4 = 2 by omega]; rfl
          · show _[(i * 4 + 3) % 4]! = _
            rw [show (i * 4 + 3) % 4 = 3 by omega]; rfl
        case round =>
          obtain ⟨j, g, hj, rfl, hbj, hrow, hg1, hg2⟩ := hrel
          have hbj' : Below W3.heap.size W3 wr := by rw [HSZ.out]; exact hbj
          by_cases hjl : j < BL k
          · obtain ⟨yb, yo, hy, hyc⟩ := (HRY.out.below hbj').at (by omega)
            cases hy
            have cj := hyc j hjl
            have x1 := hrow.cell (i := j * 4) (by omega)
            have x2 := hrow.frozen (j * 4)
            have hrow2 := hrow.set (j * 4) (.int .u32 (BZ k j : Nat))
            have FIN : Hid (∃ g : Nat → Value, (wr.setCell ⟨w2.heap.size, j * 4, none⟩ (.int .u32 (BZ k j : Nat))).rowIs w2.heap.size 61 (BL k * 4) g ∧ (∀ i, i < j + 1 → g (i * 4) = .int .u32 (BZ k i : Nat)) ∧ ∀ i, g (i * 4 + 1) = .int .i64 0 ∧ g (i * 4 + 2) = .int .i64 0 ∧ g (i * 4 + 3) = .bool false) := by
              refine ⟨_, hrow2, fun i hi => ?_, fun i => ?_⟩
              · by_cases e : i = j
                · subst e; simp
                · rw [if_neg (by omega)]; exact hg1 i (by omega)
              · rw [if_neg (by omega), if_neg (by omega), if_neg (by omega)]; exact hg2 i
            clear hyc hg1 hg2 hrow hrow2
            go_wp2
            go_roundw
            case rel =>
              obtain ⟨g', k1, k2, k3⟩ := FIN.out
              exact ⟨j + 1, g', by omega, by go_num, hbj.setCell (Nat.le_refl _) _, k1, k2, k3⟩
            case measure => simp [intOf]; omega
          · obtain rfl : BL k = j := by omega
            have ns5 := HNS.out.grow hbj'
            have x6 := ns5.row.cell (i := k * 10 + 6) (by omega)
            have y6 := ns5.row.frozen (k * 10 + 6)
            have NS6 : Hid (∃ f, NS w (wr.setCell ⟨w.heap.size, k * 10 + 6, none⟩ (.slice (some ⟨w2.heap.size, 0, none⟩) (BL k) (BL k))) n (k + 1) V PL BL PZ BZ f) :=
              ⟨_, ns5.next6 HF2.out (q_of_row hrow hg1 hg2) hlt2 ⟨a', c', HF7.out, HUR.out.below hbj', HFAR.out⟩⟩
            clear hg1 hg2 hrow ns5
            go_wp2
            go_roundw
            case rel => exact ⟨k + 1, by omega, by go_num, NS6.out⟩
            case measure => simp [intOf]; omega
    · obtain rfl : n = k := by omega
      have HN : Hid (NS w wr n n V PL BL PZ BZ f) := ns
      clear ns
      go_wp2
      go_ret
      refine ⟨wr.heap.size, rfl, HN.out.objs ((Below.refl _ _).alloc (Nat.le_refl _) _) ?_⟩
      simp [go_sem]
end Go.Proofs.Qxb6604394a
