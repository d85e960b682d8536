/- FnSkipGraphSearchEndsAtHolder: function 6. -/
import Derived.Test.Qxb6603720aSearch
import Derived.Test.Qxb6603720aForm
import Derived.Test.Qxb6603720aBytes
namespace Go.Proofs.Qxb6603720a
open Go.RowKit

/-- What the last loop has seen: if the flag stands, every node so far is flat. -/
def FlatTo (B : Nat → Int) (k : Nat) (f : Bool) : Prop := f = true → ∀ x, x < k → B (x + 1) - B x ≤ 1
theorem FlatTo.start {B : Nat → Int} {f : Bool} : FlatTo B 0 f := fun _ _ h => absurd h (Nat.not_lt_zero _)
theorem FlatTo.no {B : Nat → Int} {k : Nat} : FlatTo B k false := fun h => by cases h
theorem FlatTo.step {B : Nat → Int} {k : Nat} {f : Bool} (h : FlatTo B k f) (hk : B (k + 1) - B k ≤ 1) : FlatTo B (k + 1) f := fun e x hx => by
  by_cases ex : x = k
  · subst ex; exact hk
  · exact h e x (by omega)
theorem bstep {w w1 w2 : World} (h : Below w.heap.size w w1) (k : Below w1.heap.size w1 w2) : Below w.heap.size w w2 := h.trans (k.mono h.size)

theorem new_eq (sa ba pa qa : Option Addr) (n n1 nb n3 sc bc pc qc : Nat) (S : Nat → ByteArray) (B P Q : Nat → Int) (w : World) (e1 : n1 = n + 1) (e3 : nb = n3) (hn : nb ≤ 1048576)
    (hS : SRow w sa n S) (hB : IRow .i64 w ba n1 B) (hP : IRow .i32 w pa nb P) (hQ : IRow .i32 w qa n3 Q) :
    Calls Try.prog 22 #[.slice sa n sc, .slice ba n1 bc, .slice pa nb pc, .slice qa n3 qc] w fun e w' => ∃ G, e = .returned (.pointer (some ⟨G, 0, none⟩)) ∧ Below w.heap.size w w' ∧ Graph w' G n nb S B P Q := by
  subst e1 e3
  exact new_any sa ba pa qa n nb sc bc pc qc S B P Q w hn hS hB hP hQ

set_option maxRecDepth 100000 in
set_option maxHeartbeats 1000000 in
theorem law6 (sa ba pa qa : Option Addr) (n n1 n2 n3 sc bc pc qc : Nat) (S : Nat → ByteArray) (B P Q : Nat → Int) (src : Int) (key : ByteArray) (w : World)
    (hn : n ≤ maxLen) (hn1 : n1 ≤ maxLen) (hn2 : n2 ≤ maxLen) (hn3 : n3 ≤ maxLen) (hkey : key.size ≤ maxLen)
    (ns : sa = none → sc = 0) (nb : ba = none → bc = 0) (np : pa = none → pc = 0) (nq' : qa = none → qc = 0)
    (hS : SRow w sa n S) (hB : IRow .i64 w ba n1 B) (hP : IRow .i32 w pa n2 P) (hQ : IRow .i32 w qa n3 Q)
    (bP : ∀ i, i < n2 → -2147483648 ≤ P i ∧ P i ≤ 2147483647) (bQ : ∀ i, i < n3 → -2147483648 ≤ Q i ∧ Q i ≤ 2147483647) :
    Calls Try.prog 6 #[.slice sa n sc, .slice ba n1 bc, .slice pa n2 pc, .slice qa n3 qc, .int .i64 src, .string key] w fun e w' => e = .returned (.bool true) ∧ Below w.heap.size w w' := by
  have HN : Hid (n ≤ maxLen) := hn
  unfold maxLen at hn hn1 hn2 hn3 hkey
  by_cases hl : n ≤ 65536 ∧ n1 ≤ 131072 ∧ n2 ≤ 262144 ∧ n3 ≤ 262144 ∧ key.size ≤ 1048576
  · obtain ⟨l0, l1, l2, l3, l4⟩ := hl
    clear hn hn1 hn2 hn3 hkey
    go_enter Try.func6, Try.ntmps6
    go_wp2_with fail
    refine (bytes16_any sa ba pa qa n n1 n2 n3 sc bc pc qc S src key w HN.out hS).mono ?_
    rintro e w' ⟨⟨b, rfl, -⟩, rfl⟩
    cases b
    · go_wp2
      go_ret
      exact ⟨rfl, Below.refl _ _⟩
    go_wp2_with fail
    refine (sgbytes_any sa ba pa qa n n1 n2 n3 sc bc pc qc S w' (by omega) hS).mono ?_
    rintro e w ⟨⟨z, rfl⟩, rfl⟩
    by_cases hz : 1048576 < wrap64 (z + key.size)
    · go_wp2
      go_ret
      exact ⟨rfl, Below.refl _ _⟩
    go_wp2_with fail
    refine (form_any sa ba pa qa n n1 n2 n3 sc bc pc qc S B P Q w (by omega) (by omega) (by omega) (by omega) hS hB hP hQ bP bQ).mono ?_
    rintro e w1 ⟨⟨b, rfl, hwf⟩, hb1⟩
    cases b
    · clear hwf
      go_wp2
      go_ret
      exact ⟨rfl, hb1⟩
    obtain ⟨e1, e2, g⟩ := hwf rfl
    have E1 : Hid (n1 = n + 1) := e1
    have E2 : Hid (n2 = n3) := e2
    clear hwf hz bP bQ e1 e2
    by_cases hsrc : 0 ≤ src ∧ src < n
    · obtain ⟨src, rfl⟩ : ∃ k : Nat, src = k := ⟨src.toNat, by omega⟩
      obtain ⟨k, hh⟩ := hold_ex key g.pos g.first g.mono
      have hsn : src < n := by omega
      have hkn := hh.1
      clear hsrc
      go_wp2_with fail
      refine (clone19_any sa n sc S w1 (by omega) ns (hS.below hb1)).mono ?_
      rintro e w2 ⟨sa', sc', rfl, hb2, hS2⟩
      go_wp2_with fail
      refine (clone20_any ba n1 bc B w2 (by omega) nb ((hB.below hb1).below hb2)).mono ?_
      rintro e w3 ⟨ba', bc', rfl, hb3, hB3⟩
      go_wp2_with fail
      refine (clone21_any pa n2 pc P w3 (by omega) np (((hP.below hb1).below hb2).below hb3)).mono ?_
      rintro e w4 ⟨pa', pc', rfl, hb4, hP4⟩
      go_wp2_with fail
      refine (clone21_any qa n3 qc Q w4 (by omega) nq' ((((hQ.below hb1).below hb2).below hb3).below hb4)).mono ?_
      rintro e w5 ⟨qa', qc', rfl, hb5, hQ5⟩
      have hS5 := ((hS2.below hb3).below hb4).below hb5
      have hB5 := (hB3.below hb4).below hb5
      have hP5 := hP4.below hb5
      have hbw5 := bstep (bstep (bstep (bstep hb1 hb2) hb3) hb4) hb5
      clear hS hB hP hQ hS2 hB3 hP4 hb1 hb2 hb3 hb4 hb5 ns nb np nq'
      go_wp2_with fail
      refine (new_eq sa' ba' pa' qa' n n1 n2 n3 sc' bc' pc' qc' S B P Q w5 E1.out E2.out (by omega) hS5 hB5 hP5 hQ5).mono ?_
      rintro e w6 ⟨G, rfl, hb6, hG⟩
      go_wp2_with fail
      refine (search_any w6 G n n2 src k S B P Q key hG (by omega) (by omega) g hh hsn).mono ?_
      rintro e w7 ⟨hops, rfl, inv, hb7⟩
      have hS7 := (hS5.below hb6).below hb7
      have hB7 := (hB5.below hb6).below hb7
      have hbw := bstep (bstep hbw5 hb6) hb7
      clear hS5 hB5 hP5 hQ5 hbw5 hb6 hb7 hG
      go_wp2
      go_loop [17, 18] (fun hd i => ∃ x : Nat, x ≤ n ∧ i = .int .i64 x ∧ hd = .int .i64 ((min (x - 1) k : Nat) : Int)) (fun _ i => n - (intOf i).toNat)
      case atStart => exact ⟨0, by omega, rfl, by simp⟩
      case round =>
        obtain ⟨x, hx, rfl, rfl⟩ := hrel
        by_cases hlt : x < n
        · obtain ⟨sb, so, rfl, hsc⟩ := hS7.at (by omega)
          have c0 := hsc x hlt
          have hle := hh.2 x hlt
          cases h1 : Op.bytesLess (S x).toList key.toList
          · cases h2 : ((S x).toList == key.toList)
            · have hgt : ¬ x ≤ k := fun h => by have := hle.2 h; simp [leS, h1, h2] at this
              clear hle
              go_wp2
              go_round
              case rel => exact ⟨x + 1, by omega, by go_num, by rw [show min (x + 1 - 1) k = min (x - 1) k from by omega]⟩
              case measure => simp [intOf]; omega
            · have hxk : x ≤ k := hle.1 (by simp [leS, h2])
              clear hle
              go_wp2
              go_round
              case rel => exact ⟨x + 1, by omega, by go_num, by rw [show min (x + 1 - 1) k = x from by omega]⟩
              case measure => simp [intOf]; omega
          · have hxk : x ≤ k := hle.1 (by simp [leS, h1])
            clear hle
            go_wp2
            go_round
            case rel => exact ⟨x + 1, by omega, by go_num, by rw [show min (x + 1 - 1) k = x from by omega]⟩
            case measure => simp [intOf]; omega
        · obtain rfl : n = x := by omega
          rw [show min (n - 1) k = k from by omega]
          have hsum := inv.sum
          have hzero := inv.zero
          have heq := inv.eq
          unfold dist at hsum heq
          have HE : Hid (Flat n B → hops = (src - k) + (k - src)) := fun f => by have := heq f; omega
          clear heq inv
          have hz1 : hops = 0 ↔ src = k := by constructor <;> intro h <;> omega
          clear hzero
          rcases (show src = k ∨ k < src ∨ src < k from by omega) with hd | hd | hd
          · have hh0 : hops = 0 := hz1.2 hd
            have g1 : ((hops : Int) == 0) = true := by simp; omega
            have g2 : ((src : Int) - k == 0) = true := by simp; omega
            have g3 : (k : Int) ≤ src := by omega
            have g4 : hops ≤ src - k := by omega
            clear hz1 hsum hd hh0
            go_wp2
            go_loopw [20, 21] (fun fl i wr => ∃ (x : Nat) (f : Bool), x ≤ n ∧ i = .int .i64 x ∧ fl = .bool f ∧ FlatTo B x f ∧ Below w.heap.size w wr ∧ Below w7.heap.size w7 wr) (fun _ i _ => n - (intOf i).toNat)
            case atStart => exact ⟨0, true, by omega, rfl, rfl, FlatTo.start, hbw, Below.refl _ _⟩
            case round =>
              clear hbw
              obtain ⟨x, f, hx, rfl, rfl, hf, hbw, hb⟩ := hrel
              by_cases hlt : x < n
              · have e1 := E1.out
                obtain ⟨ab, ao, rfl, hac⟩ := hB7.at (by omega)
                have c0 := cell_below hb (hac x (by omega))
                have c1 := cell_below hb (hac (x + 1) (by omega))
                have bd0 := g.bd x (by omega)
                have bd1 := g.bd (x + 1) (by omega)
                have hx1 : x + 1 < n1 := by omega
                clear e1
                by_cases t1 : 1 < B (x + 1) - B x
                · have FIN : Hid (FlatTo B (x + 1) false) := FlatTo.no
                  clear hf
                  go_wp2_with fail
                  go_quiet (fail)
                  go_wp2
                  go_roundw
                  case rel => exact ⟨x + 1, false, by omega, by go_num, rfl, FIN.out, below_drewN hbw _, below_drewN hb _⟩
                  case measure => simp [intOf]; omega
                · have FIN : Hid (FlatTo B (x + 1) f) := hf.step (by omega)
                  clear hf
                  go_wp2_with fail
                  go_quiet (fail)
                  go_wp2
                  go_roundw
                  case rel => exact ⟨x + 1, f, by omega, by go_num, rfl, FIN.out, below_drewN hbw _, below_drewN hb _⟩
                  case measure => simp [intOf]; omega
              · obtain rfl : n = x := by omega
                cases f
                · clear hf
                  go_wp2
                  go_ret
                  exact ⟨rfl, hbw⟩
                · have e := HE.out (hf rfl)
                  have e2 : ((hops : Int) != (src : Int) - k) = false := by simp; omega
                  clear hf e
                  go_wp2
                  go_ret
                  exact ⟨rfl, hbw⟩
          · have hh0 : ¬ hops = 0 := fun e => by have := hz1.1 e; omega
            have g1 : ((hops : Int) == 0) = false := by simp; omega
            have g2 : ((src : Int) - k == 0) = false := by simp; omega
            have g4 : hops ≤ src - k := by omega
            clear hz1 hsum hh0
            go_wp2
            go_loopw [20, 21] (fun fl i wr => ∃ (x : Nat) (f : Bool), x ≤ n ∧ i = .int .i64 x ∧ fl = .bool f ∧ FlatTo B x f ∧ Below w.heap.size w wr ∧ Below w7.heap.size w7 wr) (fun _ i _ => n - (intOf i).toNat)
            case atStart => exact ⟨0, true, by omega, rfl, rfl, FlatTo.start, hbw, Below.refl _ _⟩
            case round =>
              clear hbw
              obtain ⟨x, f, hx, rfl, rfl, hf, hbw, hb⟩ := hrel
              by_cases hlt : x < n
              · have e1 := E1.out
                obtain ⟨ab, ao, rfl, hac⟩ := hB7.at (by omega)
                have c0 := cell_below hb (hac x (by omega))
                have c1 := cell_below hb (hac (x + 1) (by omega))
                have bd0 := g.bd x (by omega)
                have bd1 := g.bd (x + 1) (by omega)
                have hx1 : x + 1 < n1 := by omega
                clear e1
                by_cases t1 : 1 < B (x + 1) - B x
                · have FIN : Hid (FlatTo B (x + 1) false) := FlatTo.no
                  clear hf
                  go_wp2_with fail
                  go_quiet (fail)
                  go_wp2
                  go_roundw
                  case rel => exact ⟨x + 1, false, by omega, by go_num, rfl, FIN.out, below_drewN hbw _, below_drewN hb _⟩
                  case measure => simp [intOf]; omega
                · have FIN : Hid (FlatTo B (x + 1) f) := hf.step (by omega)
                  clear hf
                  go_wp2_with fail
                  go_quiet (fail)
                  go_wp2
                  go_roundw
                  case rel => exact ⟨x + 1, f, by omega, by go_num, rfl, FIN.out, below_drewN hbw _, below_drewN hb _⟩
                  case measure => simp [intOf]; omega
              · obtain rfl : n = x := by omega
                cases f
                · clear hf
                  go_wp2
                  go_ret
                  exact ⟨rfl, hbw⟩
                · have e := HE.out (hf rfl)
                  have e2 : ((hops : Int) != (src : Int) - k) = false := by simp; omega
                  clear hf e
                  go_wp2
                  go_ret
                  exact ⟨rfl, hbw⟩
          · have hh0 : ¬ hops = 0 := fun e => by have := hz1.1 e; omega
            have g1 : ((hops : Int) == 0) = false := by simp; omega
            have g2 : (-((src : Int) - k) == 0) = false := by simp; omega
            have g4 : hops ≤ k - src := by omega
            clear hz1 hsum hh0
            go_wp2
            go_loopw [20, 21] (fun fl i wr => ∃ (x : Nat) (f : Bool), x ≤ n ∧ i = .int .i64 x ∧ fl = .bool f ∧ FlatTo B x f ∧ Below w.heap.size w wr ∧ Below w7.heap.size w7 wr) (fun _ i _ => n - (intOf i).toNat)
            case atStart => exact ⟨0, true, by omega, rfl, rfl, FlatTo.start, hbw, Below.refl _ _⟩
            case round =>
              clear hbw
              obtain ⟨x, f, hx, rfl, rfl, hf, hbw, hb⟩ := hrel
              by_cases hlt : x < n
              · have e1 := E1.out
                obtain ⟨ab, ao, rfl, hac⟩ := hB7.at (by omega)
                have c0 := cell_below hb (hac x (by omega))
                have c1 := cell_below hb (hac (x + 1) (by omega))
                have bd0 := g.bd x (by omega)
                have bd1 := g.bd (x + 1) (by omega)
                have hx1 : x + 1 < n1 := by omega
                clear e1
                by_cases t1 : 1 < B (x + 1) - B x
                · have FIN : Hid (FlatTo B (x + 1) false) := FlatTo.no
                  clear hf
                  go_wp2_with fail
                  go_quiet (fail)
                  go_wp2
                  go_roundw
                  case rel => exact ⟨x + 1, false, by omega, by go_num, rfl, FIN.out, below_drewN hbw _, below_drewN hb _⟩
                  case measure => simp [intOf]; omega
                · have FIN : Hid (FlatTo B (x + 1) f) := hf.step (by omega)
                  clear hf
                  go_wp2_with fail
                  go_quiet (fail)
                  go_wp2
                  go_roundw
                  case rel => exact ⟨x + 1, f, by omega, by go_num, rfl, FIN.out, below_drewN hbw _, below_drewN hb _⟩
                  case measure => simp [intOf]; omega
              · obtain rfl : n = x := by omega
                cases f
                · clear hf
                  go_wp2
                  go_ret
                  exact ⟨rfl, hbw⟩
                · have e := HE.out (hf rfl)
                  have e2 : ((hops : Int) != -((src : Int) - k)) = false := by simp; omega
                  clear hf e
                  go_wp2
                  go_ret
                  exact ⟨rfl, hbw⟩
    · go_wp2
      all_goals go_ret
      all_goals exact ⟨rfl, hb1⟩
  · go_enter Try.func6, Try.ntmps6
    go_wp2_with fail
    refine (bytes16_any sa ba pa qa n n1 n2 n3 sc bc pc qc S src key w HN.out hS).mono ?_
    rintro e w' ⟨⟨b, rfl, -⟩, rfl⟩
    cases b
    · go_wp2
      go_ret
      exact ⟨rfl, Below.refl _ _⟩
    · go_wp2_with fail
      all_goals go_ret
      all_goals exact ⟨rfl, Below.refl _ _⟩
end Go.Proofs.Qxb6603720a
