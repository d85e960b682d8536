/- FnWalkVisitsExactlyTheReachable: function 5. -/
import Derived.Test.Qxb6604394aLaw6
import Derived.Test.Qxb6604394aReach
import Derived.Test.Qxb6604394aPlain2
namespace Go.Proofs.Qxb6604394a
open Go.RowKit

theorem make41 (n : Nat) (hn : n ≤ 1048576) (w : World) : (Instr.makeSlice 41 (.int .i64 ((n : Int) + 1)) (.int .i64 ((n : Int) + 1))).run Try.prog w = .ok (.slice (some ⟨w.heap.size, 0, none⟩) (n + 1) (n + 1)) (w.alloc (.cells (madeCells #[.int .i64 0] (n + 1)) 3)) := by
  have := run_make_row' (P := Try.prog) 41 3 (.int .i64 0) 8 Try.underlying41 info3 rfl .i64 .i64 (n + 1) (by omega) (by omega) w
  simpa using this
theorem psh_one {p p' : List Nat × List Nat} (h : p.1 = p'.1) (v : Nat) : (psh p v).1 = (psh p' v).1 := by
  obtain ⟨a, b⟩ := p
  obtain ⟨a', b'⟩ := p'
  simp only at h
  subst h
  exact psh_fst a b b' v
theorem RQ.start (w : World) (n : Nat) : RQ (w.alloc (.cells (madeCells #[.bool false] (n + 1)) 4)) (w.heap.size + 1) w.heap.size n (.slice none 0 0) [] :=
  ⟨by omega, (World.rowIs_made w (.bool false) (n + 1) 4).congr (by simp), World.ownsRow_nil _ _ _ _, by simp⟩
theorem RQ.urow {w : World} {R rb n c : Nat} {a : Option Addr} {q : List Nat} (h : RQ w R rb n (.slice a q.length c) q) : URow w a q.length (fun i => q.getD i 0) := by
  obtain ⟨a', c', e, hr⟩ := own_urow h.ho
  cases e
  exact hr
theorem RQ.below {w w' : World} {R rb n : Nat} {v : Value} {q : List Nat} (h : RQ w R rb n v q) (hb : Below w.heap.size w w') : RQ w' R rb n v q := by
  refine ⟨h.l, h.hb.of_block (hb.block _ h.hb.lt), ⟨h.ho.1, ?_⟩, Nat.le_trans h.hR hb.size⟩
  rcases h.ho.2 with hn | ⟨g, cap, cur, rfl, h1, hg, rest⟩
  · exact .inl hn
  · exact .inr ⟨g, cap, cur, rfl, h1, by rw [hb.block _ (lt_of_block hg)]; exact hg, rest⟩
/-- What the notes tell of the first k of the order. -/
structure Told (hd : Nat → List Nat) (ord : List Nat) (g : Nat → Nat) (k : Nat) : Prop where
  le : ∀ x, g x ≤ 2097152
  tell : ∀ j u x, j < k → ord[j]? = some u → x ∈ hd (u - 1) → x ≠ 0 → x ≠ 4294967295 → 1 ≤ g x ∧ g x ≤ j + 1
/-- .. and of a part of what the next one holds. -/
structure Tells (hd : Nat → List Nat) (ord : List Nat) (g : Nat → Nat) (k : Nat) (L : List Nat) : Prop where
  told : Told hd ord g k
  new : ∀ x ∈ L, x ≠ 0 → x ≠ 4294967295 → 1 ≤ g x ∧ g x ≤ k + 1
theorem Told.start (hd : Nat → List Nat) (ord : List Nat) : Told hd ord (fun _ => 0) 0 := ⟨fun _ => by simp, fun j _ _ h => by omega⟩
theorem Told.zero {hd : Nat → List Nat} {ord : List Nat} {g : Nat → Nat} {k : Nat} (h : Told hd ord g k) : Tells hd ord g k [] := ⟨h, by simp⟩
theorem Tells.add {hd : Nat → List Nat} {ord : List Nat} {g g' : Nat → Nat} {k v : Nat} {L : List Nat} (h : Tells hd ord g k L) (hN : Noted g g' v (k + 1)) (hk : k + 1 ≤ 2097152) : Tells hd ord g' k (L ++ [v]) := by
  refine ⟨⟨fun x => ?_, fun j u x hj hu hx h0 hT => ?_⟩, fun x hx h0 hT => ?_⟩
  · have := h.told.le x
    rcases hN.le x with h | h <;> omega
  · obtain ⟨a, b⟩ := h.told.tell j u x hj hu hx h0 hT
    obtain ⟨c, d⟩ := hN.old x a
    omega
  · rw [List.mem_append] at hx
    rcases hx with hx | hx
    · obtain ⟨a, b⟩ := h.new x hx h0 hT
      obtain ⟨c, d⟩ := hN.old x a
      omega
    · simp only [List.mem_singleton] at hx
      subst hx
      exact hN.new h0 hT
theorem Tells.done {hd : Nat → List Nat} {ord : List Nat} {g : Nat → Nat} {k v : Nat} (h : Tells hd ord g k (hd (v - 1))) (hv : ord[k]? = some v) : Told hd ord g (k + 1) := by
  refine ⟨h.told.le, fun j u x hj hu hx h0 hT => ?_⟩
  by_cases e : j = k
  · subst e
    rw [hv] at hu
    cases hu
    exact h.new x hx h0 hT
  · exact h.told.tell j u x (by omega) hu hx h0 hT
theorem nodup_fresh {l : List Nat} (hn : l.Nodup) {k v : Nat} (hv : l[k]? = some v) : v ∉ l.take k := by
  intro hm
  obtain ⟨hk, hkv⟩ := List.getElem?_eq_some_iff.1 hv
  have h1 : l = l.take k ++ v :: l.drop (k + 1) := by rw [← hkv, ← List.drop_eq_getElem_cons hk, List.take_append_drop]
  rw [h1, List.nodup_append] at hn
  exact absurd rfl (hn.2.2 v hm v (by simp))
theorem getQ {q : List Nat} {k : Nat} (hk : k < q.length) : q[k]? = some (q.getD k 0) := by simp [hk]

set_option maxRecDepth 100000 in
set_option maxHeartbeats 4000000 in
theorem law5_eq (n m vc pc bc fc : Nat) (va pa ba fa : Option Addr) (V FZ : Nat → Nat) (PA BA : Nat → Option Addr) (PL PC BL BC : Nat → Nat) (PZ BZ : Nat → Nat → Nat) (w : World) (hn : n ≤ maxLen) (hm : m ≤ maxLen)
    (LPL : Hid (∀ i, i < n → PL i ≤ maxLen)) (LBL : Hid (∀ i, i < n → BL i ≤ maxLen)) (BV : Hid (∀ i, V i < 4294967296)) (BF : Hid (∀ i, FZ i < 4294967296)) (BPZ : Hid (∀ i j, PZ i j < 4294967296)) (BBZ : Hid (∀ i j, BZ i j < 4294967296))
    (hV : URow w va n V) (hP : GRow w pa n PA PL PC PZ) (hB : GRow w ba n BA BL BC BZ) (hF : URow w fa m FZ) :
    Calls Try.prog 5 #[.slice va n vc, .slice pa n pc, .slice ba n bc, .slice fa m fc] w fun e w' => e = .returned (.bool true) ∧ Below w.heap.size w w' := by
  go_enter Try.func5, Try.ntmps5
  go_wp2_with fail
  refine (bytes12_any n n n m vc pc bc fc va pa ba fa PA BA PL PC BL BC PZ BZ w hn hn hn hm LPL LBL hP hB).mono ?_
  rintro e w' ⟨⟨z, rfl, hz⟩, hw⟩
  obtain rfl := hw.symm
  cases z
  · clear hz
    unfold maxLen at hn hm
    go_wp2
    go_ret
    exact ⟨rfl, Below.refl _ _⟩
  obtain ⟨n1, -, -, m1, KP, KB⟩ := hz rfl
  clear hz hn hm LPL LBL
  go_wp2_with fail
  refine (small_any n n n m vc pc bc fc va pa ba fa PA BA PL PC BL BC PZ BZ w n1 n1 n1 m1 KP KB hP hB).mono ?_
  rintro e w' ⟨⟨z, rfl, -⟩, hw⟩
  obtain rfl := hw.symm
  cases z
  · go_wp2
    go_ret
    exact ⟨rfl, Below.refl _ _⟩
  go_wp2_with fail
  refine (valid_any n n n m vc pc bc fc va pa ba fa V FZ PA BA PL PC BL BC PZ BZ w n1 n1 n1 m1 KP KB BV BF BPZ BBZ hV hP hB hF).mono ?_
  rintro e w' ⟨⟨z, rfl, hz⟩, hw⟩
  obtain rfl := hw.symm
  cases z
  · clear hz
    go_wp2
    go_ret
    exact ⟨rfl, Below.refl _ _⟩
  obtain ⟨O1, O2, O3, O4⟩ := hz rfl
  have FT : Hid (Fit n V PL BL PZ BZ) := ⟨O1.out, O2.out, O3.out, KP.out, KB.out⟩
  have OF : Hid (∀ v ∈ lst FZ m, Ok n v) := fun v hv => by obtain ⟨i, hi, rfl⟩ := mem_lst.1 hv; exact O4.out i hi
  clear hz O1 O2 O3 O4 BV BF BPZ BBZ
  go_wp2_with fail
  refine (clone15_any va n vc V w n1 hV).mono ?_
  rintro e w1 ⟨va1, vc1, rfl, b1, hV1⟩
  have hP1 := hP.below b1
  have hB1 := hB.below b1
  have hF1 := hF.below b1
  clear hV hP hB hF
  go_wp2_with fail
  refine (clone16_any pa n pc PA PL PC PZ w1 n1 KP.out hP1).mono ?_
  rintro e w2 ⟨pa2, pc2, PA2, PC2, rfl, b2, hP2⟩
  have hV2 := hV1.below b2
  have hB2 := hB1.below b2
  have hF2 := hF1.below b2
  have c2 := bstep b1 b2
  clear hV1 hP1 hB1 hF1 b1 b2
  go_wp2_with fail
  refine (clone16_any ba n bc BA BL BC BZ w2 n1 KB.out hB2).mono ?_
  rintro e w3 ⟨ba3, bc3, BA3, BC3, rfl, b3, hB3⟩
  have hV3 := hV2.below b3
  have hP3 := hP2.below b3
  have hF3 := hF2.below b3
  have c3 := bstep c2 b3
  clear hV2 hP2 hB2 hF2 c2 b3
  go_wp2_with fail
  refine (clone15_any fa m fc FZ w3 m1 hF3).mono ?_
  rintro e w4 ⟨fa4, fc4, rfl, b4, hF4⟩
  have hV4 := hV3.below b4
  have hP4 := hP3.below b4
  have hB4 := hB3.below b4
  have c4 := bstep c3 b4
  clear hV3 hP3 hB3 hF3 c3 b4
  have hmk := make35 n n1
  have hmk2 := make41 n n1
  have RQ0 : Hid (RQ (w4.alloc (.cells (madeCells #[.bool false] (n + 1)) 4)) (w4.heap.size + 1) w4.heap.size n (.slice none 0 0) []) := RQ.start w4 n
  go_wp2
  go_loopw [11, 82] (fun qv i wr => ∃ (j : Nat) (a : Option Addr) (c : Nat) (q : List Nat), j ≤ m ∧ Hid (q = (pshs ([], []) (lst FZ j)).1) ∧ i = .int .i64 j ∧ qv = .slice a q.length c ∧ RQ wr (w4.heap.size + 1) w4.heap.size n (.slice a q.length c) q ∧ Below w4.heap.size w4 wr) (fun _ i _ => m - (intOf i).toNat)
  case atStart => exact ⟨0, none, 0, [], by omega, rfl, rfl, rfl, RQ0.out, (Below.refl _ _).alloc (Nat.le_refl _) _⟩
  case round =>
    obtain ⟨j, a1, c1, q, hj, HQ, rfl, rfl, rq, b1⟩ := hrel
    have hG : Good n (pshs ([], []) (lst FZ j)) := Good.adds ⟨by simp, by simp, by simp⟩ (fun v hv => by
      obtain ⟨i, hi, rfl⟩ := mem_lst.1 hv
      exact OF.out _ (mem_lst.2 ⟨i, by omega, rfl⟩))
    have hl : q.length ≤ n := by rw [HQ.out]; exact hG.len
    clear hG
    by_cases ltj : j < m
    · obtain ⟨xb, xo, hx, hxc⟩ := (hF4.below b1).at (by omega)
      cases hx
      have cx := hxc j ltj
      have hok : Hid (Ok n (FZ j)) := OF.out _ (mem_lst.2 ⟨j, ltj, rfl⟩)
      clear hxc
      go_wp2_with fail
      refine (reach_any wr (w4.heap.size + 1) w4.heap.size n (FZ j) c1 a1 q rq hok.out n1 (by omega)).mono ?_
      rintro e w' ⟨a2, c2, rfl, rq2, b2⟩
      have HQ2 : Hid ((psh (q, []) (FZ j)).1 = (pshs ([], []) (lst FZ (j + 1))).1) := by
        show _ = _
        rw [lst_succ, pshs_snoc]
        exact psh_one HQ.out _
      obtain ⟨q2, hq2⟩ : ∃ q2, q2 = (psh (q, []) (FZ j)).1 := ⟨_, rfl⟩
      rw [← hq2] at rq2 HQ2 ⊢
      clear hq2 rq
      go_wp2
      go_roundw
      case rel => exact ⟨j + 1, a2, c2, q2, by omega, HQ2, by go_num, rfl, rq2, b1.trans b2⟩
      case measure => simp [intOf]; omega
    · obtain rfl : m = j := by omega
      have HI0 : Hid (Inv n (held V PL BL PZ BZ) (pshs ([], []) (lst FZ m)).1 q (q.drop 0)) := by
        show Inv _ _ _ _ _
        rw [List.drop_zero, HQ.out]
        have h := Inv.start (hd := held V PL BL PZ BZ) OF.out
        obtain ⟨new, e1, e2, _, _⟩ := pshs_shape (lst FZ m) ([], [])
        have e3 : (pshs ([], []) (lst FZ m)).2 = (pshs ([], []) (lst FZ m)).1 := by rw [e1, e2]
        rw [e3] at h
        exact h
      have HRT : Hid (q.length = (pshs ([], []) (lst FZ m)).1.length) := by show _ = _; rw [HQ.out]
      obtain ⟨nr, hnr⟩ : ∃ nr, nr = q.length := ⟨_, rfl⟩
      have HNR : Hid (nr = (pshs ([], []) (lst FZ m)).1.length) := by rw [hnr]; exact HRT
      go_wp2
      go_loopw [11, 15] (fun qv h wr => ∃ (k : Nat) (a : Option Addr) (c : Nat) (q : List Nat), k ≤ q.length ∧ h = .int .i64 k ∧ qv = .slice a q.length c ∧ RQ wr (w4.heap.size + 1) w4.heap.size n (.slice a q.length c) q ∧ Hid (Inv n (held V PL BL PZ BZ) (pshs ([], []) (lst FZ m)).1 q (q.drop k)) ∧ Below w4.heap.size w4 wr) (fun _ h _ => n + 1 - (intOf h).toNat)
      case atStart => exact ⟨0, _, _, _, by omega, rfl, rfl, rq, HI0, b1⟩
      case round =>
        obtain ⟨k, a1, c1, q, hk, rfl, rfl, rqk, IQ, bk⟩ := hrel
        have hqn : q.length ≤ n := IQ.out.good.len
        by_cases ltk : k < q.length
        · obtain ⟨xb, xo, hx, hxc⟩ := rqk.urow.at (by omega)
          cases hx
          have cx0 := hxc k ltk
          obtain ⟨v, hv⟩ : ∃ v, v = q.getD k 0 := ⟨_, rfl⟩
          rw [← hv] at cx0
          have HK : Hid (q[k]? = some v) := by rw [hv]; exact getQ ltk
          obtain ⟨hv1, hv2⟩ := IQ.out.good.rng v (List.mem_of_getElem? HK.out)
          have hv3 : v - 1 < n := by omega
          have GQ : Hid (Good n (q, [])) := ⟨IQ.out.good.nodup, IQ.out.good.rng, by simp⟩
          clear hv hxc
          obtain ⟨vb, vo, hva, hvc⟩ := (hV4.below bk).at (by omega)
          obtain ⟨pb, po, hpa, hpc⟩ := hP4.at (by omega)
          obtain ⟨bb, bo, hba, hbc⟩ := hB4.at (by omega)
          have d1 := hvc (v - 1) hv3
          have d2 := cell_below bk (hpc (v - 1) hv3)
          have d3 := cell_below bk (hbc (v - 1) hv3)
          have kp := KP.out (v - 1) hv3
          have kb := KB.out (v - 1) hv3
          cases hva; cases hpa; cases hba
          have e2 := hpc (v - 1) hv3
          have e3 := hbc (v - 1) hv3
          clear hvc hpc hbc
          go_wp2_with fail
          refine (reach_any wr (w4.heap.size + 1) w4.heap.size n (V (v - 1)) c1 _ q rqk (FT.out.v _ hv3) n1 (by omega)).mono ?_
          rintro e w' ⟨a2, c2, rfl, rqS, b2⟩
          have bS : Below w4.heap.size w4 w' := bk.trans b2
          have HQS : Hid ((psh (q, []) (V (v - 1))).1 = (pshs (q, []) (V (v - 1) :: lst (PZ (v - 1)) 0)).1) := rfl
          obtain ⟨q1, hq1⟩ : ∃ q1, q1 = (psh (q, []) (V (v - 1))).1 := ⟨_, rfl⟩
          rw [← hq1] at rqS HQS ⊢
          have d2' := cell_below bS e2
          have d3' := cell_below bS e3
          clear hq1 d2 d3 rqk cx0 d1
          go_wp2
          go_loopw [11, 116] (fun qv i wr => ∃ (j : Nat) (a : Option Addr) (c : Nat) (q2 : List Nat), j ≤ PL (v - 1) ∧ Hid (q2 = (pshs (q, []) (V (v - 1) :: lst (PZ (v - 1)) j)).1) ∧ i = .int .i64 j ∧ qv = .slice a q2.length c ∧ RQ wr (w4.heap.size + 1) w4.heap.size n (.slice a q2.length c) q2 ∧ Below w4.heap.size w4 wr) (fun _ i _ => PL (v - 1) - (intOf i).toNat)
          case atStart => exact ⟨0, _, _, _, by omega, HQS, rfl, rfl, rqS, bS⟩
          case round =>
            obtain ⟨j2, a2, c2, q2, hj2, HQ2, rfl, rfl, rq2, b2⟩ := hrel
            have hG : Good n (pshs (q, []) (V (v - 1) :: lst (PZ (v - 1)) j2)) := GQ.out.adds (fun u hu => FT.out.held hv3 u (by
              simp [held] at hu ⊢
              rcases hu with h | h
              · exact .inl h
              · obtain ⟨i, hi, rfl⟩ := mem_lst.1 h; exact .inr (.inl (mem_lst.2 ⟨i, by omega, rfl⟩))))
            have hl2 : q2.length ≤ n := by rw [HQ2.out]; exact hG.len
            clear hG
            by_cases ltj2 : j2 < PL (v - 1)
            · obtain ⟨yb, yo, hy, hyc⟩ := ((hP4.rows (v - 1) hv3).below b2).at (by omega)
              have cj := hyc j2 ltj2
              have hok : Hid (Ok n (PZ (v - 1) j2)) := FT.out.p _ hv3 _ ltj2
              clear hyc
              simp only [hy]
              go_wp2_with fail
              refine (reach_any wr (w4.heap.size + 1) w4.heap.size n (PZ (v - 1) j2) c2 a2 q2 rq2 hok.out n1 (by omega)).mono ?_
              rintro e w' ⟨a3, c3, rfl, rq3, b3⟩
              have HQ3 : Hid ((psh (q2, []) (PZ (v - 1) j2)).1 = (pshs (q, []) (V (v - 1) :: lst (PZ (v - 1)) (j2 + 1))).1) := by
                show _ = _
                first | rw [lst_succ, ← List.append_assoc, pshs_snoc] | rw [lst_succ, ← List.cons_append, pshs_snoc]
                exact psh_one HQ2.out _
              obtain ⟨q3, hq3⟩ : ∃ q3, q3 = (psh (q2, []) (PZ (v - 1) j2)).1 := ⟨_, rfl⟩
              rw [← hq3] at rq3 HQ3 ⊢
              clear hq3 rq2
              go_wp2
              go_roundw
              case rel => exact ⟨j2 + 1, a3, c3, q3, by omega, HQ3, by go_num, rfl, rq3, b2.trans b3⟩
              case measure => simp [intOf]; omega
            · obtain rfl : PL (v - 1) = j2 := by omega
              have HQ3 : Hid (q2 = (pshs (q, []) (V (v - 1) :: lst (PZ (v - 1)) (PL (v - 1)) ++ lst (BZ (v - 1)) 0)).1) := by
                show _ = _
                rw [lst_zero, List.append_nil]
                exact HQ2.out
              have d4 := cell_below b2 e3
              go_wp2
              go_loopw [11, 130] (fun qv i wr => ∃ (j : Nat) (a : Option Addr) (c : Nat) (q2 : List Nat), j ≤ BL (v - 1) ∧ Hid (q2 = (pshs (q, []) (V (v - 1) :: lst (PZ (v - 1)) (PL (v - 1)) ++ lst (BZ (v - 1)) j)).1) ∧ i = .int .i64 j ∧ qv = .slice a q2.length c ∧ RQ wr (w4.heap.size + 1) w4.heap.size n (.slice a q2.length c) q2 ∧ Below w4.heap.size w4 wr) (fun _ i _ => BL (v - 1) - (intOf i).toNat)
              case atStart => exact ⟨0, _, _, _, by omega, HQ3, rfl, rfl, rq2, b2⟩
              case round =>
                obtain ⟨j3, a2, c2, q2, hj3, HQ2, rfl, rfl, rq2, b2⟩ := hrel
                have hG : Good n (pshs (q, []) (V (v - 1) :: lst (PZ (v - 1)) (PL (v - 1)) ++ lst (BZ (v - 1)) j3)) := GQ.out.adds (fun u hu => FT.out.held hv3 u (by
                  simp [held] at hu ⊢
                  rcases hu with h | h | h
                  · exact .inl h
                  · exact .inr (.inl h)
                  · obtain ⟨i, hi, rfl⟩ := mem_lst.1 h; exact .inr (.inr (mem_lst.2 ⟨i, by omega, rfl⟩))))
                have hl2 : q2.length ≤ n := by rw [HQ2.out]; exact hG.len
                clear hG
                by_cases ltj3 : j3 < BL (v - 1)
                · obtain ⟨yb, yo, hy, hyc⟩ := ((hB4.rows (v - 1) hv3).below b2).at (by omega)
                  have cj := hyc j3 ltj3
                  have hok : Hid (Ok n (BZ (v - 1) j3)) := FT.out.b _ hv3 _ ltj3
                  clear hyc
                  simp only [hy]
                  go_wp2_with fail
                  refine (reach_any wr (w4.heap.size + 1) w4.heap.size n (BZ (v - 1) j3) c2 a2 q2 rq2 hok.out n1 (by omega)).mono ?_
                  rintro e w' ⟨a3, c3, rfl, rq3, b3⟩
                  have HQ3 : Hid ((psh (q2, []) (BZ (v - 1) j3)).1 = (pshs (q, []) (V (v - 1) :: lst (PZ (v - 1)) (PL (v - 1)) ++ lst (BZ (v - 1)) (j3 + 1))).1) := by
                    show _ = _
                    first | rw [lst_succ, ← List.append_assoc, pshs_snoc] | rw [lst_succ, ← List.cons_append, pshs_snoc]
                    exact psh_one HQ2.out _
                  obtain ⟨q3, hq3⟩ : ∃ q3, q3 = (psh (q2, []) (BZ (v - 1) j3)).1 := ⟨_, rfl⟩
                  rw [← hq3] at rq3 HQ3 ⊢
                  clear hq3 rq2
                  go_wp2
                  go_roundw
                  case rel => exact ⟨j3 + 1, a3, c3, q3, by omega, HQ3, by go_num, rfl, rq3, b2.trans b3⟩
                  case measure => simp [intOf]; omega
                · obtain rfl : BL (v - 1) = j3 := by omega
                  have HI : Hid (Inv n (held V PL BL PZ BZ) (pshs ([], []) (lst FZ m)).1 q2 (q2.drop (k + 1))) := by
                    show Inv _ _ _ _ _
                    rw [HQ2.out]
                    exact IQ.out.bfs HK.out (FT.out.held hv3)
                  have hkq : k + 1 ≤ q2.length := by
                    obtain ⟨new, e1, _⟩ := pshs_shape (V (v - 1) :: lst (PZ (v - 1)) (PL (v - 1)) ++ lst (BZ (v - 1)) (BL (v - 1))) (q, [])
                    rw [HQ2.out, e1]
                    simp
                    omega
                  go_wp2
                  go_roundw
                  case rel => exact ⟨k + 1, a2, c2, q2, hkq, by go_num, rfl, rq2, HI, b2⟩
                  case measure => simp [intOf]; omega
        · obtain rfl : q.length = k := by omega
          rw [← hnr]
          clear hnr HRT
          have IQ0 : Hid (Inv n (held V PL BL PZ BZ) (pshs ([], []) (lst FZ m)).1 q []) := by
            have h := IQ.out
            rw [List.drop_length] at h
            exact h
          have hVr := hV4.below bk
          have hPr := hP4.below bk
          have hBr := hB4.below bk
          have hFr := hF4.below bk
          have cr : Below w.heap.size w wr := bstep c4 bk
          clear hV4 hP4 hB4 hF4 c4 IQ
          go_wp2_with fail
          refine (new_any wr n vc1 pc2 bc3 va1 pa2 ba3 V PA2 BA3 PL PC2 BL BC3 PZ BZ n1 KP.out KB.out hVr hPr hBr).mono ?_
          rintro e w5 ⟨S, rfl, b5, ob5⟩
          have hV5 := hVr.below b5
          have hP5 := hPr.below b5
          have hB5 := hBr.below b5
          have hF5 := hFr.below b5
          have rq5 := rqk.below b5
          have c5 := bstep cr b5
          have OB5 : Hid (Objs w5 w5.heap.size S wr.heap.size n V PL BL PZ BZ) := ob5
          clear hVr hPr hBr hFr cr b5 ob5 rqk bk
          go_wp2_with fail
          refine (first_any w5 w5.heap.size S wr.heap.size n m fc4 fa4 V PL BL FZ PZ BZ (Nat.le_refl _) OB5.out FT.out n1 hF5 m1 OF.out).mono ?_
          rintro e w6 ⟨oa, oc, ord, rfl, hO6, inv6, b6⟩
          have hV6 := hV5.below b6
          have hP6 := hP5.below b6
          have hB6 := hB5.below b6
          have rq6 := rq5.below b6
          have c6 := bstep c5 b6
          have I6 : Hid (Inv n (held V PL BL PZ BZ) (pshs ([], []) (lst FZ m)).1 ord []) := inv6
          have lo := inv6.good.len
          simp only at lo
          obtain ⟨O, hO⟩ : ∃ O : Nat → Nat, O = fun i => ord.getD i 0 := ⟨_, rfl⟩
          rw [← hO] at hO6
          have HO : Hid (∀ k, k < ord.length → ord[k]? = some (O k)) := fun k hk => by rw [hO]; simp [hk]
          have HR : Hid (∀ k, k < ord.length → 1 ≤ O k ∧ O k ≤ n) := fun k hk => I6.out.good.rng _ (List.mem_of_getElem? (HO.out k hk))
          clear hO
          obtain ⟨s1, s2, s3⟩ := inv6.same IQ0.out n1
          have HM : Hid (∀ v ∈ ord, v ∈ q) := s1
          have hnl : nr ≤ ord.length := by
            rw [HNR.out]
            obtain ⟨r, e⟩ := inv6.pre
            rw [e]
            simp
          have HQE : Hid (∀ k, k < nr → q.getD k 0 = O k) := fun k hk => by
            have h1 := s3 k (by rw [← HNR.out]; exact hk)
            rw [HO.out k (by omega)] at h1
            simp [List.getD_eq_getElem?_getD, ← h1]
          have hlq : q.length = ord.length := s2.symm
          have qne : ((ord.length : Int) != (q.length : Int)) = false := by rw [hlq]; simp
          clear hV5 hP5 hB5 hF5 c5 OB5 b6 inv6 s1 s2 s3 rq5 ltk
          go_wp2
          go_loopw [23] (fun i wr => ∃ k : Nat, k ≤ nr ∧ i = .int .i64 k ∧ Below w.heap.size w wr ∧ Below w6.heap.size w6 wr) (fun i _ => nr - (intOf i).toNat)
          case atStart => exact ⟨0, by omega, rfl, c6, Below.refl _ _⟩
          case round =>
            obtain ⟨k, hk, rfl, bw, b9⟩ := hrel
            by_cases ltk : k < nr
            · obtain ⟨xb, xo, hx, hxc⟩ := (hO6.below b9).at (by omega)
              obtain ⟨yb, yo, hy, hyc⟩ := (rq6.urow.below b9).at (by omega)
              cases hx; cases hy
              have cx := hxc k (by omega)
              have cy := hyc k (by omega)
              have ey := HQE.out k ltk
              rw [ey] at cy
              clear hxc hyc ey
              go_wp2_with fail
              go_quiet (fail)
              go_wp2
              go_roundw
              case rel => exact ⟨k + 1, by omega, by go_num, below_drewN bw _, below_drewN b9 _⟩
              case measure => simp [intOf]; omega
            · obtain ⟨wA, hwA⟩ : ∃ wA, wA = wr := ⟨_, rfl⟩
              subst hwA
              have hOA := hO6.below b9
              have hVA := hV6.below b9
              have hPA := hP6.below b9
              have hBA := hB6.below b9
              have rqA := rq6.below b9
              have cA := bw
              clear hO6 hV6 hP6 hB6 rq6 c6
              have HA0 : Hid ((wA.alloc (.cells (madeCells #[.int .i64 0] (n + 1)) 3)).rowIs wA.heap.size 3 (n + 1) (fun x => .int .i64 (((fun _ => 0 : Nat → Nat) x : Nat) : Int))) := (World.rowIs_made wA (.int .i64 0) (n + 1) 3).congr (by simp)
              go_wp2
              go_loopw [170] (fun i wr => ∃ (k : Nat) (g : Nat → Nat), k ≤ ord.length ∧ i = .int .i64 k ∧ Below wA.heap.size wA wr ∧ wr.rowIs wA.heap.size 3 (n + 1) (fun x => .int .i64 (g x : Nat)) ∧ Hid (∀ x, x ∉ ord.take k → g x = 0)) (fun i _ => ord.length - (intOf i).toNat)
              case atStart => exact ⟨0, _, by omega, rfl, (Below.refl _ _).alloc (Nat.le_refl _) _, HA0.out, fun _ _ => rfl⟩
              case round =>
                obtain ⟨k, g, hk, rfl, ba, hr, G0⟩ := hrel
                by_cases ltk : k < ord.length
                · obtain ⟨xb, xo, hx, hxc⟩ := (hOA.below ba).at (by omega)
                  cases hx
                  have cx := hxc k ltk
                  obtain ⟨v, hv⟩ : ∃ v, v = O k := ⟨_, rfl⟩
                  rw [← hv] at cx
                  obtain ⟨hv1, hv2⟩ := HR.out k ltk
                  have HK : Hid (ord[k]? = some v) := by rw [hv]; exact HO.out k ltk
                  rw [← hv] at hv1 hv2
                  clear hv hxc
                  have hvq : v ∈ q := HM.out v (List.mem_of_getElem? HK.out)
                  have cq := ((rqA.below ba).hb).cell (i := v) (by omega)
                  rw [decide_eq_true hvq] at cq
                  have cg := hr.cell (i := v) (by omega)
                  have fg := hr.frozen v
                  have g0 : g v = 0 := G0.out v (nodup_fresh I6.out.good.nodup HK.out)
                  rw [g0] at cg
                  have q0 : ((v : Int) == 0) = false := by simp; omega
                  have HN : Hid ((wr.setCell ⟨wA.heap.size, v, none⟩ (.int .i64 ((k : Int) + 1))).rowIs wA.heap.size 3 (n + 1) (fun x => .int .i64 (up g v (k + 1) x : Nat))) := (hr.set v _).congr fun i _ => by
                    by_cases e : i = v
                    · subst e; simp [up_at]
                    · simp [e, up_ne _ _ _ e]
                  have HG : Hid (∀ x, x ∉ ord.take (k + 1) → up g v (k + 1) x = 0) := fun x hx => by
                    rw [take_succ_mem HK.out] at hx
                    rw [up_ne _ _ _ (fun e => hx (.inl e))]
                    exact G0.out x (fun e => hx (.inr e))
                  clear hr g0 hvq
                  go_wp2
                  go_roundw
                  case rel => exact ⟨k + 1, _, by omega, by go_num, ba.setCell (Nat.le_refl _) _, HN.out, HG⟩
                  case measure => simp [intOf]; omega
                · obtain rfl : ord.length = k := by omega
                  obtain ⟨wB, hwB⟩ : ∃ wB, wB = wr := ⟨_, rfl⟩
                  subst hwB
                  have hOB := hOA.below ba
                  have hVB := hVA.below ba
                  have hPB := hPA.below ba
                  have hBB := hBA.below ba
                  have cB : Below w.heap.size w wB := bstep cA ba
                  clear hr G0 hOA hVA hPA hBA cA rqA
                  have TD0 : Hid (Told (held V PL BL PZ BZ) ord (fun _ => 0) 0) := Told.start _ _
                  have HA1 : Hid ((wB.alloc (.cells (madeCells #[.int .i64 0] (n + 1)) 3)).rowIs wB.heap.size 3 (n + 1) (fun x => .int .i64 (((fun _ => 0 : Nat → Nat) x : Nat) : Int))) := (World.rowIs_made wB (.int .i64 0) (n + 1) 3).congr (by simp)
                  go_wp2
                  go_loopw [209] (fun i wr => ∃ (k : Nat) (g : Nat → Nat), k ≤ ord.length ∧ i = .int .i64 k ∧ Below wB.heap.size wB wr ∧ wr.rowIs wB.heap.size 3 (n + 1) (fun x => .int .i64 (g x : Nat)) ∧ Hid (Told (held V PL BL PZ BZ) ord g k)) (fun i _ => ord.length - (intOf i).toNat)
                  case atStart => exact ⟨0, _, by omega, rfl, (Below.refl _ _).alloc (Nat.le_refl _) _, HA1.out, TD0⟩
                  case round =>
                    obtain ⟨k, g, hk, rfl, bh, hr, TD⟩ := hrel
                    by_cases ltk : k < ord.length
                    · obtain ⟨xb, xo, hx, hxc⟩ := (hOB.below bh).at (by omega)
                      cases hx
                      have cx := hxc k ltk
                      obtain ⟨v, hv⟩ : ∃ v, v = O k := ⟨_, rfl⟩
                      rw [← hv] at cx
                      obtain ⟨hv1, hv2⟩ := HR.out k ltk
                      have HK : Hid (ord[k]? = some v) := by rw [hv]; exact HO.out k ltk
                      rw [← hv] at hv1 hv2
                      have hv3 : v - 1 < n := by omega
                      clear hv hxc
                      obtain ⟨vb, vo, hva, hvc⟩ := (hVB.below bh).at (by omega)
                      obtain ⟨pb, po, hpa, hpc⟩ := hPB.at (by omega)
                      obtain ⟨bb, bo, hba, hbc⟩ := hBB.at (by omega)
                      have d1 := hvc (v - 1) hv3
                      have e2 := hpc (v - 1) hv3
                      have e3 := hbc (v - 1) hv3
                      have kp := KP.out (v - 1) hv3
                      have kb := KB.out (v - 1) hv3
                      cases hva; cases hpa; cases hba
                      clear hvc hpc hbc
                      go_wp2_with fail
                      refine (note_any wr wB.heap.size n (V (v - 1)) (k + 1) g hr (FT.out.v _ hv3) n1 (by omega) (by omega) TD.out.le _ (by first | rfl | simp)).mono ?_
                      rintro e w' ⟨rfl, ⟨g1, hrS, N1⟩, b1⟩
                      have bS : Below wB.heap.size wB w' := bh.trans b1
                      have TS0 : Hid (Tells (held V PL BL PZ BZ) ord g1 k ([V (v - 1)] ++ lst (PZ (v - 1)) 0)) := by
                        show Tells _ _ _ _ _
                        rw [lst_zero, List.append_nil]
                        exact TD.out.zero.add N1 (by omega)
                      have d2 := cell_below bS e2
                      have d3 := cell_below bS e3
                      clear N1 hr TD cx d1
                      go_wp2
                      go_loopw [229] (fun i wr => ∃ (j : Nat) (g : Nat → Nat), j ≤ PL (v - 1) ∧ i = .int .i64 j ∧ Below wB.heap.size wB wr ∧ wr.rowIs wB.heap.size 3 (n + 1) (fun x => .int .i64 (g x : Nat)) ∧ Hid (Tells (held V PL BL PZ BZ) ord g k ([V (v - 1)] ++ lst (PZ (v - 1)) j))) (fun i _ => PL (v - 1) - (intOf i).toNat)
                      case atStart => exact ⟨0, _, by omega, rfl, bS, hrS, TS0⟩
                      case round =>
                        obtain ⟨j2, g2, hj2, rfl, b2, hr2, TS⟩ := hrel
                        by_cases ltj2 : j2 < PL (v - 1)
                        · obtain ⟨yb, yo, hy, hyc⟩ := ((hPB.rows (v - 1) hv3).below b2).at (by omega)
                          have cj := hyc j2 ltj2
                          have hok : Hid (Ok n (PZ (v - 1) j2)) := FT.out.p _ hv3 _ ltj2
                          clear hyc
                          simp only [hy]
                          go_wp2_with fail
                          refine (note_any wr wB.heap.size n (PZ (v - 1) j2) (k + 1) g2 hr2 hok.out n1 (by omega) (by omega) TS.out.told.le _ (by first | rfl | simp)).mono ?_
                          rintro e w' ⟨rfl, ⟨g3, hr3, N3⟩, b3⟩
                          have TS3 : Hid (Tells (held V PL BL PZ BZ) ord g3 k ([V (v - 1)] ++ lst (PZ (v - 1)) (j2 + 1))) := by
                            show Tells _ _ _ _ _
                            rw [lst_succ, ← List.append_assoc]
                            exact TS.out.add N3 (by omega)
                          clear N3 TS hr2
                          go_wp2
                          go_roundw
                          case rel => exact ⟨j2 + 1, g3, by omega, by go_num, b2.trans b3, hr3, TS3⟩
                          case measure => simp [intOf]; omega
                        · obtain rfl : PL (v - 1) = j2 := by omega
                          have TS4 : Hid (Tells (held V PL BL PZ BZ) ord g2 k (([V (v - 1)] ++ lst (PZ (v - 1)) (PL (v - 1))) ++ lst (BZ (v - 1)) 0)) := by
                            show Tells _ _ _ _ _
                            rw [lst_zero, List.append_nil]
                            exact TS.out
                          have d4 := cell_below b2 e3
                          clear TS
                          go_wp2
                          go_loopw [244] (fun i wr => ∃ (j : Nat) (g : Nat → Nat), j ≤ BL (v - 1) ∧ i = .int .i64 j ∧ Below wB.heap.size wB wr ∧ wr.rowIs wB.heap.size 3 (n + 1) (fun x => .int .i64 (g x : Nat)) ∧ Hid (Tells (held V PL BL PZ BZ) ord g k (([V (v - 1)] ++ lst (PZ (v - 1)) (PL (v - 1))) ++ lst (BZ (v - 1)) j))) (fun i _ => BL (v - 1) - (intOf i).toNat)
                          case atStart => exact ⟨0, _, by omega, rfl, b2, hr2, TS4⟩
                          case round =>
                            obtain ⟨j3, g2, hj3, rfl, b2, hr2, TS⟩ := hrel
                            by_cases ltj3 : j3 < BL (v - 1)
                            · obtain ⟨yb, yo, hy, hyc⟩ := ((hBB.rows (v - 1) hv3).below b2).at (by omega)
                              have cj := hyc j3 ltj3
                              have hok : Hid (Ok n (BZ (v - 1) j3)) := FT.out.b _ hv3 _ ltj3
                              clear hyc
                              simp only [hy]
                              go_wp2_with fail
                              refine (note_any wr wB.heap.size n (BZ (v - 1) j3) (k + 1) g2 hr2 hok.out n1 (by omega) (by omega) TS.out.told.le _ (by first | rfl | simp)).mono ?_
                              rintro e w' ⟨rfl, ⟨g3, hr3, N3⟩, b3⟩
                              have TS3 : Hid (Tells (held V PL BL PZ BZ) ord g3 k (([V (v - 1)] ++ lst (PZ (v - 1)) (PL (v - 1))) ++ lst (BZ (v - 1)) (j3 + 1))) := by
                                show Tells _ _ _ _ _
                                rw [lst_succ, ← List.append_assoc]
                                exact TS.out.add N3 (by omega)
                              clear N3 TS hr2
                              go_wp2
                              go_roundw
                              case rel => exact ⟨j3 + 1, g3, by omega, by go_num, b2.trans b3, hr3, TS3⟩
                              case measure => simp [intOf]; omega
                            · obtain rfl : BL (v - 1) = j3 := by omega
                              have TD1 : Hid (Told (held V PL BL PZ BZ) ord g2 (k + 1)) := by
                                have h := TS.out
                                have e : ([V (v - 1)] ++ lst (PZ (v - 1)) (PL (v - 1))) ++ lst (BZ (v - 1)) (BL (v - 1)) = held V PL BL PZ BZ (v - 1) := by simp [held]
                                rw [e] at h
                                exact h.done HK.out
                              clear TS
                              go_wp2
                              go_roundw
                              case rel => exact ⟨k + 1, g2, by omega, by go_num, b2, hr2, TD1⟩
                              case measure => simp [intOf]; omega
                    · obtain rfl : ord.length = k := by omega
                      clear hk
                      have hr9 := hr
                      go_wp2
                      go_loop [35] (fun i => ∃ k : Nat, nr ≤ k ∧ k ≤ ord.length ∧ i = .int .i64 k) (fun i => ord.length - (intOf i).toNat)
                      case atStart => exact ⟨nr, by omega, hnl, rfl⟩
                      case round =>
                        obtain ⟨k, hk1, hk, rfl⟩ := hrel
                        by_cases ltk2 : k < ord.length
                        · obtain ⟨xb, xo, hx, hxc⟩ := ((hOB.below bh)).at (by omega)
                          cases hx
                          have cx := hxc k ltk2
                          obtain ⟨v, hv⟩ : ∃ v, v = O k := ⟨_, rfl⟩
                          rw [← hv] at cx
                          obtain ⟨hv1, hv2⟩ := HR.out k ltk2
                          have HK : Hid (ord[k]? = some v) := by rw [hv]; exact HO.out k ltk2
                          rw [← hv] at hv1 hv2
                          clear hv hxc
                          have hgv : 1 ≤ g v ∧ g v ≤ k := by
                            obtain ⟨j, u, hj, hu, hm⟩ := I6.out.chain k v (by have := HNR.out; omega) HK.out
                            obtain ⟨a, b⟩ := TD.out.tell j u v (by omega) hu hm (by omega) (by omega)
                            omega
                          obtain ⟨hg1, hg2⟩ := hgv
                          have cv := hr9.cell (i := v) (by omega)
                          have qg : ((g v : Int) == 0) = false := by simp; omega
                          clear hr9
                          go_wp2
                          go_round
                          case rel => exact ⟨k + 1, by omega, by omega, by go_num⟩
                          case measure => simp [intOf]; omega
                        · go_wp2
                          go_ret
                          exact ⟨rfl, bstep cB bh⟩
end Go.Proofs.Qxb6604394a
