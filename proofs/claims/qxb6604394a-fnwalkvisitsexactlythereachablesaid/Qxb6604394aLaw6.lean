/- FnWalkIsClosedAndIdempotent: function 6. -/
import Derived.Test.Qxb6604394aNew
import Derived.Test.Qxb6604394aBytes
import Derived.Test.Qxb6604394aSmall
import Derived.Test.Qxb6604394aPlain
namespace Go.Proofs.Qxb6604394a
open Go.RowKit

theorem make35 (n : Nat) (hn : n ≤ 1048576) (w : World) : (Instr.makeSlice 35 (.int .i64 ((n : Int) + 1)) (.int .i64 ((n : Int) + 1))).run Try.prog w = .ok (.slice (some ⟨w.heap.size, 0, none⟩) (n + 1) (n + 1)) (w.alloc (.cells (madeCells #[.bool false] (n + 1)) 4)) := by
  have := run_make_row' (P := Try.prog) 35 4 (.bool false) 1 Try.underlying35 info4 rfl .i64 .i64 (n + 1) (by omega) (by omega) w
  simpa using this
theorem take_succ_mem {l : List Nat} {k v : Nat} (h : l[k]? = some v) (i : Nat) : i ∈ l.take (k + 1) ↔ i = v ∨ i ∈ l.take k := by
  rw [List.take_add_one, h]
  simp [or_comm]
theorem row_mark {w : World} {b n k v : Nat} {l : List Nat} (hr : w.rowIs b 4 n (fun i => .bool (decide (i ∈ l.take k)))) (h : l[k]? = some v) : (w.setCell ⟨b, v, none⟩ (.bool true)).rowIs b 4 n (fun i => .bool (decide (i ∈ l.take (k + 1)))) :=
  (hr.set v (.bool true)).congr fun i _ => by
    show (if i = v then Value.bool true else .bool (decide (i ∈ l.take k))) = .bool (decide (i ∈ l.take (k + 1)))
    by_cases e : i = v
    · rw [if_pos e, decide_eq_true ((take_succ_mem h i).2 (.inl e))]
    · rw [if_neg e]
      congr 1
      exact decide_eq_decide.2 ⟨fun hm => (take_succ_mem h i).2 (.inr hm), fun hm => ((take_succ_mem h i).1 hm).resolve_left e⟩

set_option maxRecDepth 100000 in
set_option maxHeartbeats 4000000 in
theorem law6_eq (n m vc pc bc fc : Nat) (va pa ba fa : Option Addr) (V FZ : Nat → Nat) (PA BA : Nat → Option Addr) (PL PC BL BC : Nat → Nat) (PZ BZ : Nat → Nat → Nat) (w : World) (hn : n ≤ maxLen) (hm : m ≤ maxLen)
    (LPL : Hid (∀ i, i < n → PL i ≤ maxLen)) (LBL : Hid (∀ i, i < n → BL i ≤ maxLen)) (BV : Hid (∀ i, V i < 4294967296)) (BF : Hid (∀ i, FZ i < 4294967296)) (BPZ : Hid (∀ i j, PZ i j < 4294967296)) (BBZ : Hid (∀ i j, BZ i j < 4294967296))
    (hV : URow w va n V) (hP : GRow w pa n PA PL PC PZ) (hB : GRow w ba n BA BL BC BZ) (hF : URow w fa m FZ) :
    Calls Try.prog 6 #[.slice va n vc, .slice pa n pc, .slice ba n bc, .slice fa m fc] w fun e w' => e = .returned (.bool true) ∧ Below w.heap.size w w' := by
  go_enter Try.func6, Try.ntmps6
  go_wp2_with fail
  refine (bytes21_any n n n m vc pc bc fc va pa ba fa PA BA PL PC BL BC PZ BZ w hn hn hn hm LPL LBL hP hB).mono ?_
  rintro e w' ⟨⟨z, rfl, hz⟩, hw⟩
  obtain rfl := hw.symm
  cases z
  · clear hz
    unfold maxLen at hn hm
    go_wp2
    go_ret
    exact ⟨rfl, Below.refl _ _⟩
  obtain ⟨n1, -, -, m1, KP, KB⟩ := hz rfl
  clear hz hn hm LPL LBL
  go_wp2_with fail
  refine (small_any n n n m vc pc bc fc va pa ba fa PA BA PL PC BL BC PZ BZ w n1 n1 n1 m1 KP KB hP hB).mono ?_
  rintro e w' ⟨⟨z, rfl, -⟩, hw⟩
  obtain rfl := hw.symm
  cases z
  · go_wp2
    go_ret
    exact ⟨rfl, Below.refl _ _⟩
  go_wp2_with fail
  refine (valid_any n n n m vc pc bc fc va pa ba fa V FZ PA BA PL PC BL BC PZ BZ w n1 n1 n1 m1 KP KB BV BF BPZ BBZ hV hP hB hF).mono ?_
  rintro e w' ⟨⟨z, rfl, hz⟩, hw⟩
  obtain rfl := hw.symm
  cases z
  · clear hz
    go_wp2
    go_ret
    exact ⟨rfl, Below.refl _ _⟩
  obtain ⟨O1, O2, O3, O4⟩ := hz rfl
  have FT : Hid (Fit n V PL BL PZ BZ) := ⟨O1.out, O2.out, O3.out, KP.out, KB.out⟩
  have OF : Hid (∀ v ∈ lst FZ m, Ok n v) := fun v hv => by obtain ⟨i, hi, rfl⟩ := mem_lst.1 hv; exact O4.out i hi
  clear hz O1 O2 O3 O4 BV BF BPZ BBZ
  go_wp2_with fail
  refine (clone15_any va n vc V w n1 hV).mono ?_
  rintro e w1 ⟨va1, vc1, rfl, b1, hV1⟩
  have hP1 := hP.below b1
  have hB1 := hB.below b1
  have hF1 := hF.below b1
  clear hV hP hB hF
  go_wp2_with fail
  refine (clone16_any pa n pc PA PL PC PZ w1 n1 KP.out hP1).mono ?_
  rintro e w2 ⟨pa2, pc2, PA2, PC2, rfl, b2, hP2⟩
  have hV2 := hV1.below b2
  have hB2 := hB1.below b2
  have hF2 := hF1.below b2
  have c2 := bstep b1 b2
  clear hV1 hP1 hB1 hF1 b1 b2
  go_wp2_with fail
  refine (clone16_any ba n bc BA BL BC BZ w2 n1 KB.out hB2).mono ?_
  rintro e w3 ⟨ba3, bc3, BA3, BC3, rfl, b3, hB3⟩
  have hV3 := hV2.below b3
  have hP3 := hP2.below b3
  have hF3 := hF2.below b3
  have c3 := bstep c2 b3
  clear hV2 hP2 hB2 hF2 c2 b3
  go_wp2_with fail
  refine (clone15_any fa m fc FZ w3 m1 hF3).mono ?_
  rintro e w4 ⟨fa4, fc4, rfl, b4, hF4⟩
  have hV4 := hV3.below b4
  have hP4 := hP3.below b4
  have hB4 := hB3.below b4
  have c4 := bstep c3 b4
  clear hV3 hP3 hB3 hF3 c3 b4
  go_wp2_with fail
  refine (new_any w4 n vc1 pc2 bc3 va1 pa2 ba3 V PA2 BA3 PL PC2 BL BC3 PZ BZ n1 KP.out KB.out hV4 hP4 hB4).mono ?_
  rintro e w5 ⟨S, rfl, b5, ob5⟩
  have hV5 := hV4.below b5
  have hP5 := hP4.below b5
  have hB5 := hB4.below b5
  have hF5 := hF4.below b5
  have c5 := bstep c4 b5
  have OB5 : Hid (Objs w5 w5.heap.size S w4.heap.size n V PL BL PZ BZ) := ob5
  clear hV4 hP4 hB4 hF4 c4 b5 ob5
  go_wp2_with fail
  refine (first_any w5 w5.heap.size S w4.heap.size n m fc4 fa4 V PL BL FZ PZ BZ (Nat.le_refl _) OB5.out FT.out n1 hF5 m1 OF.out).mono ?_
  rintro e w6 ⟨oa, oc, ord, rfl, hO6, inv6, b6⟩
  have hV6 := hV5.below b6
  have hP6 := hP5.below b6
  have hB6 := hB5.below b6
  have hF6 := hF5.below b6
  have c6 := bstep c5 b6
  have OB6 : Hid (Objs w6 w5.heap.size S w4.heap.size n V PL BL PZ BZ) := OB5.out.below b6
  have S6 : Hid (w5.heap.size ≤ w6.heap.size) := b6.size
  have I6 : Hid (Inv n (held V PL BL PZ BZ) (pshs ([], []) (lst FZ m)).1 ord []) := inv6
  have lo := inv6.good.len
  simp only at lo
  have hmk := make35 n n1
  obtain ⟨O, hO⟩ : ∃ O : Nat → Nat, O = fun i => ord.getD i 0 := ⟨_, rfl⟩
  rw [← hO] at hO6
  have HO : Hid (∀ k, k < ord.length → ord[k]? = some (O k)) := fun k hk => by rw [hO]; simp [hk]
  have HLO : Hid (lst O ord.length = ord) := by rw [hO]; exact lst_getD ord
  have HR : Hid (∀ k, k < ord.length → 1 ≤ O k ∧ O k ≤ n) := fun k hk => I6.out.good.rng _ (List.mem_of_getElem? (HO.out k hk))
  clear hO
  clear hV5 hP5 hB5 hF5 c5 OB5 b6 inv6
  go_wp2
  have HR0 : Hid ((w6.alloc (.cells (madeCells #[.bool false] (n + 1)) 4)).rowIs w6.heap.size 4 (n + 1) (fun i => .bool (decide (i ∈ ord.take 0)))) := (World.rowIs_made w6 (.bool false) (n + 1) 4).congr (by simp)
  go_loopw [78] (fun i wr => ∃ k : Nat, k ≤ ord.length ∧ i = .int .i64 k ∧ Below w6.heap.size w6 wr ∧ wr.rowIs w6.heap.size 4 (n + 1) (fun i => .bool (decide (i ∈ ord.take k)))) (fun i _ => ord.length - (intOf i).toNat)
  case atStart => exact ⟨0, by omega, rfl, (Below.refl _ _).alloc (Nat.le_refl _) _, HR0.out⟩
  case round =>
    obtain ⟨k, hk, rfl, hb7, hr⟩ := hrel
    by_cases ltk : k < ord.length
    · obtain ⟨xb, xo, hx, hxc⟩ := (hO6.below hb7).at (by omega)
      cases hx
      have cx := hxc k ltk
      obtain ⟨hv1, hv2⟩ := HR.out k ltk
      have c2 := hr.cell (i := O k) (by omega)
      have f2 := hr.frozen (O k)
      have q0 : ((O k : Int) == 0) = false := by simp; omega
      have HN : Hid ((wr.setCell ⟨w6.heap.size, O k, none⟩ (.bool true)).rowIs w6.heap.size 4 (n + 1) (fun i => .bool (decide (i ∈ ord.take (k + 1))))) := row_mark hr (HO.out k ltk)
      clear hxc hr
      go_wp2
      go_roundw
      case rel => exact ⟨k + 1, by omega, by go_num, hb7.setCell (Nat.le_refl _) _, HN.out⟩
      case measure => simp [intOf]; omega
    · obtain rfl : ord.length = k := by omega
      have H7 : Hid (wr.rowIs w6.heap.size 4 (n + 1) (fun i => .bool (decide (i ∈ ord)))) := by
        have := hr
        rw [List.take_length] at this
        exact this
      have hO7 := hO6.below hb7
      have hV7 := hV6.below hb7
      have hP7 := hP6.below hb7
      have hB7 := hB6.below hb7
      have hF7 := hF6.below hb7
      clear hr hO6 hV6 hP6 hB6 hF6 hk ltk
      go_wp2
      go_loop [97] (fun i => ∃ k : Nat, k ≤ m ∧ i = .int .i64 k) (fun i => m - (intOf i).toNat)
      case atStart => exact ⟨0, by omega, rfl⟩
      case round =>
        obtain ⟨k, hk, rfl⟩ := hrel
        by_cases ltk : k < m
        · obtain ⟨xb, xo, hx, hxc⟩ := hF7.at (by omega)
          cases hx
          have cx := hxc k ltk
          clear hxc
          go_wp2_with fail
          refine (heldIn_any wr w6.heap.size n (FZ k) (fun i => decide (i ∈ ord)) H7.out (OF.out _ (mem_lst.2 ⟨k, ltk, rfl⟩)) (by simpa using I6.out.from _ (mem_lst.2 ⟨k, ltk, rfl⟩))).mono ?_
          rintro e w' ⟨rfl, hw⟩
          obtain rfl := hw.symm
          go_wp2
          go_round
          case rel => exact ⟨k + 1, by omega, by go_num⟩
          case measure => simp [intOf]; omega
        · go_wp2
          go_loop [108] (fun i => ∃ k : Nat, k ≤ ord.length ∧ i = .int .i64 k) (fun i => ord.length - (intOf i).toNat)
          case atStart => exact ⟨0, by omega, rfl⟩
          case round =>
            obtain ⟨k, hk, rfl⟩ := hrel
            by_cases ltk : k < ord.length
            · obtain ⟨xb, xo, hx, hxc⟩ := hO7.at (by omega)
              cases hx
              obtain ⟨v, hv⟩ : ∃ v, v = O k := ⟨_, rfl⟩
              have cx := hxc k ltk
              rw [← hv] at cx
              obtain ⟨hv1, hv2⟩ := HR.out k ltk
              have hvo : Hid (v ∈ ord) := by rw [hv]; exact List.mem_of_getElem? (HO.out k ltk)
              rw [← hv] at hv1 hv2
              have hv3 : v - 1 < n := by omega
              have HC : Hid (∀ u ∈ held V PL BL PZ BZ (v - 1), u = 0 ∨ u = 4294967295 ∨ u ∈ ord) := I6.out.closed v hvo.out
              clear hv hxc
              obtain ⟨vb, vo, hva, hvc⟩ := hV7.at (by omega)
              obtain ⟨pb, po, hpa, hpc⟩ := hP7.at (by omega)
              obtain ⟨bb, bo, hba, hbc⟩ := hB7.at (by omega)
              have d1 := hvc (v - 1) hv3
              have d2 := hpc (v - 1) hv3
              have d3 := hbc (v - 1) hv3
              have kp := KP.out (v - 1) hv3
              have kb := KB.out (v - 1) hv3
              cases hva; cases hpa; cases hba
              clear hvc hpc hbc
              go_wp2_with fail
              refine (heldIn_any wr w6.heap.size n (V (v - 1)) (fun i => decide (i ∈ ord)) H7.out (FT.out.v _ hv3) (by simpa using HC.out _ (by simp [held]))).mono ?_
              rintro e w' ⟨rfl, hw⟩
              obtain rfl := hw.symm
              go_wp2
              go_loop [126] (fun i => ∃ k : Nat, k ≤ PL (v - 1) ∧ i = .int .i64 k) (fun i => PL (v - 1) - (intOf i).toNat)
              case atStart => exact ⟨0, by omega, rfl⟩
              case round =>
                obtain ⟨j2, hj2, rfl⟩ := hrel
                by_cases ltj2 : j2 < PL (v - 1)
                · obtain ⟨yb, yo, hy, hyc⟩ := (hP7.rows (v - 1) hv3).at (by omega)
                  have cj := hyc j2 ltj2
                  clear hyc
                  simp only [hy]
                  go_wp2_with fail
                  refine (heldIn_any wr w6.heap.size n (PZ (v - 1) j2) (fun i => decide (i ∈ ord)) H7.out (FT.out.held hv3 _ (by unfold held; simp; exact .inr (.inl (mem_lst.2 ⟨j2, ltj2, rfl⟩)))) (by simpa using HC.out _ (by unfold held; simp; exact .inr (.inl (mem_lst.2 ⟨j2, ltj2, rfl⟩))))).mono ?_
                  rintro e w' ⟨rfl, hw⟩
                  obtain rfl := hw.symm
                  go_wp2
                  go_round
                  case rel => exact ⟨j2 + 1, by omega, by go_num⟩
                  case measure => simp [intOf]; omega
                · go_wp2
                  go_loop [140] (fun i => ∃ k : Nat, k ≤ BL (v - 1) ∧ i = .int .i64 k) (fun i => BL (v - 1) - (intOf i).toNat)
                  case atStart => exact ⟨0, by omega, rfl⟩
                  case round =>
                    obtain ⟨j3, hj3, rfl⟩ := hrel
                    by_cases ltj3 : j3 < BL (v - 1)
                    · obtain ⟨yb, yo, hy, hyc⟩ := (hB7.rows (v - 1) hv3).at (by omega)
                      have cj := hyc j3 ltj3
                      clear hyc
                      simp only [hy]
                      go_wp2_with fail
                      refine (heldIn_any wr w6.heap.size n (BZ (v - 1) j3) (fun i => decide (i ∈ ord)) H7.out (FT.out.held hv3 _ (by unfold held; simp; exact .inr (.inr (mem_lst.2 ⟨j3, ltj3, rfl⟩)))) (by simpa using HC.out _ (by unfold held; simp; exact .inr (.inr (mem_lst.2 ⟨j3, ltj3, rfl⟩))))).mono ?_
                      rintro e w' ⟨rfl, hw⟩
                      obtain rfl := hw.symm
                      go_wp2
                      go_round
                      case rel => exact ⟨j3 + 1, by omega, by go_num⟩
                      case measure => simp [intOf]; omega
                    · go_wp2
                      go_round
                      case rel => exact ⟨k + 1, by omega, by go_num⟩
                      case measure => simp [intOf]; omega
            · go_wp2_with fail
              refine (first_any wr w5.heap.size S w4.heap.size n ord.length oc oa V PL BL O PZ BZ (by have := S6.out; have := hb7.size; omega) (OB6.out.below (hb7.mono S6.out)) FT.out n1 hO7 (by omega) (by rw [HLO.out]; exact fun v hv => .inr (.inr (I6.out.good.rng v hv).2))).mono ?_
              rintro e w8 ⟨ga, gc, ord', rfl, hG8, inv8, b8⟩
              rw [HLO.out] at inv8
              have e8 : ord' = ord := I6.out.idem inv8 n1
              rw [e8] at hG8 ⊢
              clear e8 inv8
              have hG9 : URow w8 ga ord.length O := ⟨hG8.1, fun x hx i hi => by
                have := hG8.2 x hx i hi
                have h2 := HO.out i hi
                simp [List.getD_eq_getElem?_getD, h2] at this
                exact this⟩
              have hO8 := hO7.below b8
              have c8 : Below w.heap.size w w8 := bstep (bstep c6 hb7) b8
              clear hG8 hV7 hP7 hB7 hF7 hO7
              go_wp2
              go_loopw [25] (fun i wr => ∃ k : Nat, k ≤ ord.length ∧ i = .int .i64 k ∧ Below w.heap.size w wr ∧ Below w8.heap.size w8 wr) (fun i _ => ord.length - (intOf i).toNat)
              case atStart => exact ⟨0, by omega, rfl, c8, Below.refl _ _⟩
              case round =>
                obtain ⟨k, hk, rfl, bw, b9⟩ := hrel
                by_cases ltk : k < ord.length
                · obtain ⟨xb, xo, hx, hxc⟩ := (hO8.below b9).at (by omega)
                  obtain ⟨yb, yo, hy, hyc⟩ := (hG9.below b9).at (by omega)
                  cases hx; cases hy
                  have cx := hxc k ltk
                  have cy := hyc k ltk
                  clear hxc hyc
                  go_wp2_with fail
                  go_quiet (fail)
                  go_wp2
                  go_roundw
                  case rel => exact ⟨k + 1, by omega, by go_num, below_drewN bw _, below_drewN b9 _⟩
                  case measure => simp [intOf]; omega
                · go_wp2
                  go_ret
                  exact ⟨rfl, bw⟩
end Go.Proofs.Qxb6604394a
