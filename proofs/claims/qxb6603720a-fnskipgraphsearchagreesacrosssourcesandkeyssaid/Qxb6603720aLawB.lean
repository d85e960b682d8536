/- FnSkipGraphSearchAgreesAcrossSourcesAndKeys: function 7. -/
import Derived.Test.Qxb6603720aLawA
namespace Go.Proofs.Qxb6603720a
open Go.RowKit

theorem hold_mono {n : Nat} {S : Nat → ByteArray} {x y : ByteArray} {a b : Nat} (ha : Hold n S x a) (hb : Hold n S y b) (h : leS x y = true) : a ≤ b :=
  (hb.2 a ha.1).1 (leS_trans ((ha.2 a ha.1).2 (Nat.le_refl _)) h)
/-- How two keys stand to each other, and their holders. -/
theorem keys_cases {n : Nat} {S : Nat → ByteArray} {x y : ByteArray} {a b : Nat} (ha : Hold n S x a) (hb : Hold n S y b) :
    ((x.toList == y.toList) = true ∧ Op.bytesLess x.toList y.toList = false ∧ Op.bytesLess y.toList x.toList = false ∧ a ≤ b ∧ b ≤ a) ∨
    ((x.toList == y.toList) = false ∧ Op.bytesLess x.toList y.toList = true ∧ Op.bytesLess y.toList x.toList = false ∧ a ≤ b) ∨
    ((x.toList == y.toList) = false ∧ Op.bytesLess x.toList y.toList = false ∧ Op.bytesLess y.toList x.toList = true ∧ b ≤ a) := by
  cases h1 : Op.bytesLess x.toList y.toList
  · cases h2 : Op.bytesLess y.toList x.toList
    · have e := bl_total _ _ h1 h2
      exact .inl ⟨by simp [e], rfl, rfl, hold_mono ha hb (by rw [leS_eq, h2]; rfl), hold_mono hb ha (by rw [leS_eq, h1]; rfl)⟩
    · refine .inr (.inr ⟨?_, rfl, rfl, hold_mono hb ha (by rw [leS_eq, h1]; rfl)⟩)
      have : ¬ x.toList = y.toList := fun e => by rw [e, bl_irrefl] at h2; cases h2
      simpa using this
  · have h2 : Op.bytesLess y.toList x.toList = false := by
      cases h : Op.bytesLess y.toList x.toList
      · rfl
      · have := bl_trans _ _ _ h1 h
        rw [bl_irrefl] at this; cases this
    refine .inr (.inl ⟨?_, rfl, h2, hold_mono ha hb (by rw [leS_eq, h2]; rfl)⟩)
    have : ¬ x.toList = y.toList := fun e => by rw [e, bl_irrefl] at h1; cases h1
    simpa using this
/-- The holder's start is at or before its key. -/
theorem start_cases {n : Nat} {S : Nat → ByteArray} {x : ByteArray} {a : Nat} (ha : Hold n S x a) :
    Op.bytesLess (S a).toList x.toList = true ∨ (Op.bytesLess (S a).toList x.toList = false ∧ ((S a).toList == x.toList) = true) := by
  have := (ha.2 a ha.1).2 (Nat.le_refl _)
  cases h : Op.bytesLess (S a).toList x.toList
  · right
    refine ⟨rfl, ?_⟩
    rw [leS, h] at this
    simpa using this
  · left; rfl
/-- The next node's start is behind the key. -/
theorem next_start {n : Nat} {S : Nat → ByteArray} {x : ByteArray} {a : Nat} (ha : Hold n S x a) (h : a + 1 < n) : Op.bytesLess x.toList (S (a + 1)).toList = true := by
  have := ha.2 (a + 1) h
  rw [leS_eq] at this
  cases hb : Op.bytesLess x.toList (S (a + 1)).toList
  · rw [hb] at this
    simp at this
    omega
  · rfl

set_option maxRecDepth 100000 in
set_option maxHeartbeats 4000000 in
theorem law7 (sa ba pa qa : Option Addr) (n n1 n2 n3 sc bc pc qc : Nat) (S : Nat → ByteArray) (B P Q : Nat → Int) (src : Int) (key : ByteArray) (src2 : Int) (key2 : ByteArray) (w : World)
    (hn : n ≤ maxLen) (hn1 : n1 ≤ maxLen) (hn2 : n2 ≤ maxLen) (hn3 : n3 ≤ maxLen) (hkey : key.size ≤ maxLen) (hkey2 : key2.size ≤ maxLen)
    (ns : sa = none → sc = 0) (nb : ba = none → bc = 0) (np : pa = none → pc = 0) (nq' : qa = none → qc = 0)
    (hS : SRow w sa n S) (hB : IRow .i64 w ba n1 B) (hP : IRow .i32 w pa n2 P) (hQ : IRow .i32 w qa n3 Q)
    (bP : ∀ i, i < n2 → -2147483648 ≤ P i ∧ P i ≤ 2147483647) (bQ : ∀ i, i < n3 → -2147483648 ≤ Q i ∧ Q i ≤ 2147483647) :
    Calls Try.prog 7 #[.slice sa n sc, .slice ba n1 bc, .slice pa n2 pc, .slice qa n3 qc, .int .i64 src, .string key, .int .i64 src2, .string key2] w fun e w' => e = .returned (.bool true) ∧ Below w.heap.size w w' := by
  have HN : Hid (n ≤ maxLen) := hn
  unfold maxLen at hn hn1 hn2 hn3 hkey hkey2
  by_cases hl : n ≤ 65536 ∧ n1 ≤ 131072 ∧ n2 ≤ 262144 ∧ n3 ≤ 262144 ∧ key.size ≤ 1048576 ∧ key2.size ≤ 1048576
  · obtain ⟨l0, l1, l2, l3, l4, l5⟩ := hl
    clear hn hn1 hn2 hn3 hkey hkey2
    go_enter Try.func7, Try.ntmps7
    go_wp2_with fail
    refine (bytes24_any sa ba pa qa n n1 n2 n3 sc bc pc qc S src src2 key key2 w HN.out hS).mono ?_
    rintro e w' ⟨⟨b, rfl, -⟩, rfl⟩
    cases b
    · go_wp2
      go_ret
      exact ⟨rfl, Below.refl _ _⟩
    go_wp2_with fail
    refine (sgbytes_any sa ba pa qa n n1 n2 n3 sc bc pc qc S w' (by omega) hS).mono ?_
    rintro e w ⟨⟨z, rfl⟩, rfl⟩
    by_cases hz : 1048576 < wrap64 (wrap64 (z + key.size) + key2.size)
    · go_wp2
      go_ret
      exact ⟨rfl, Below.refl _ _⟩
    go_wp2_with fail
    refine (form_any sa ba pa qa n n1 n2 n3 sc bc pc qc S B P Q w (by omega) (by omega) (by omega) (by omega) hS hB hP hQ bP bQ).mono ?_
    rintro e w1 ⟨⟨b, rfl, hwf⟩, hb1⟩
    cases b
    · clear hwf
      go_wp2
      go_ret
      exact ⟨rfl, hb1⟩
    obtain ⟨e1, e2, g⟩ := hwf rfl
    have E1 : Hid (n1 = n + 1) := e1
    have E2 : Hid (n2 = n3) := e2
    clear hwf hz bP bQ e1 e2
    by_cases hsrc : 0 ≤ src ∧ src < n ∧ 0 ≤ src2 ∧ src2 < n
    · obtain ⟨src, rfl⟩ : ∃ k : Nat, src = k := ⟨src.toNat, by omega⟩
      obtain ⟨src2, rfl⟩ : ∃ k : Nat, src2 = k := ⟨src2.toNat, by omega⟩
      obtain ⟨k2, hh2⟩ := hold_ex key2 g.pos g.first g.mono
      have hkn2 := hh2.1
      have hsn2 : src2 < n := by omega
      obtain ⟨k, hh⟩ := hold_ex key g.pos g.first g.mono
      have hsn : src < n := by omega
      have hkn := hh.1
      clear hsrc
      go_wp2_with fail
      refine (clone19_any sa n sc S w1 (by omega) ns (hS.below hb1)).mono ?_
      rintro e w2 ⟨sa', sc', rfl, hb2, hS2⟩
      go_wp2_with fail
      refine (clone20_any ba n1 bc B w2 (by omega) nb ((hB.below hb1).below hb2)).mono ?_
      rintro e w3 ⟨ba', bc', rfl, hb3, hB3⟩
      go_wp2_with fail
      refine (clone21_any pa n2 pc P w3 (by omega) np (((hP.below hb1).below hb2).below hb3)).mono ?_
      rintro e w4 ⟨pa', pc', rfl, hb4, hP4⟩
      go_wp2_with fail
      refine (clone21_any qa n3 qc Q w4 (by omega) nq' ((((hQ.below hb1).below hb2).below hb3).below hb4)).mono ?_
      rintro e w5 ⟨qa', qc', rfl, hb5, hQ5⟩
      have hS5 := ((hS2.below hb3).below hb4).below hb5
      have hB5 := (hB3.below hb4).below hb5
      have hP5 := hP4.below hb5
      have hbw5 := bstep (bstep (bstep (bstep hb1 hb2) hb3) hb4) hb5
      clear hS hB hP hQ hS2 hB3 hP4 hb1 hb2 hb3 hb4 hb5 ns nb np nq'
      go_wp2_with fail
      refine (new_eq sa' ba' pa' qa' n n1 n2 n3 sc' bc' pc' qc' S B P Q w5 E1.out E2.out (by omega) hS5 hB5 hP5 hQ5).mono ?_
      rintro e w6 ⟨G, rfl, hb6, hG⟩
      go_wp2_with fail
      refine (search_any w6 G n n2 src k S B P Q key hG (by omega) (by omega) g hh hsn).mono ?_
      rintro e w7 ⟨hops, rfl, inv, hb7⟩
      go_wp2_with fail
      refine (search_any w7 G n n2 src2 k2 S B P Q key2 (hG.below hb7) (by omega) (by omega) g hh2 hsn2).mono ?_
      rintro e w8 ⟨hops2, rfl, inv2, hb8⟩
      have hS8 := ((hS5.below hb6).below hb7).below hb8
      have hbw := bstep (bstep (bstep hbw5 hb6) hb7) hb8
      have hG8 := (hG.below hb7).below hb8
      clear hS5 hB5 hP5 hQ5 hbw5 hb6 hb7 hb8 hG inv inv2
      obtain ⟨sb, so, rfl, hsc⟩ := hS8.at (by omega)
      have c0 := hsc k hkn
      have c1 := hsc (k + 1)
      have hns := next_start hh
      rcases start_cases hh with s1 | ⟨s1, s2⟩
      all_goals
        rcases keys_cases hh hh2 with ⟨t1, t2, t3, t4, t5⟩ | ⟨t1, t2, t3, t4⟩ | ⟨t1, t2, t3, t4⟩
        all_goals
          by_cases hl1 : k + 1 < n
          · have c2 := c1 hl1
            have s3 := hns hl1
            clear c1 hns
            clear hh2
            go_wp2_with fail
            refine (search_any w8 G n n2 k k S B P Q key hG8 (by omega) (by omega) g hh hkn).mono ?_
            rintro e w9 ⟨hops3, rfl, inv3, hb9⟩
            have hz3 : (hops3 : Int) = 0 := by have := inv3.sum; unfold dist at this; omega
            have g3 : ((hops3 : Int) != 0) = false := by simp [hz3]
            clear hz3
            go_wp2
            go_ret
            exact ⟨rfl, bstep hbw hb9⟩
          · clear c1 hns
            clear hh2
            go_wp2_with fail
            refine (search_any w8 G n n2 k k S B P Q key hG8 (by omega) (by omega) g hh hkn).mono ?_
            rintro e w9 ⟨hops3, rfl, inv3, hb9⟩
            have hz3 : (hops3 : Int) = 0 := by have := inv3.sum; unfold dist at this; omega
            have g3 : ((hops3 : Int) != 0) = false := by simp [hz3]
            clear hz3
            go_wp2
            go_ret
            exact ⟨rfl, bstep hbw hb9⟩
    · go_wp2
      all_goals go_ret
      all_goals exact ⟨rfl, hb1⟩
  · go_enter Try.func7, Try.ntmps7
    go_wp2_with fail
    refine (bytes24_any sa ba pa qa n n1 n2 n3 sc bc pc qc S src src2 key key2 w HN.out hS).mono ?_
    rintro e w' ⟨⟨b, rfl, -⟩, rfl⟩
    cases b
    · go_wp2
      go_ret
      exact ⟨rfl, Below.refl _ _⟩
    · go_wp2_with fail
      all_goals go_ret
      all_goals exact ⟨rfl, Below.refl _ _⟩
end Go.Proofs.Qxb6603720a
