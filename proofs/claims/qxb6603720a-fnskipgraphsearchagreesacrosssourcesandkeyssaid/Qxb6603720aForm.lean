/- zzSGWellFormed: function 18. -/
import Derived.Test.Qxb6603720aMem
import Derived.Test.Qxb6603720aPlain
namespace Go.Proofs.Qxb6603720a
open Go.RowKit

/-- What the third loop has seen of one node. -/
def Node (n : Nat) (B P Q : Nat → Int) (x : Nat) : Prop :=
  (∀ d : Nat, (d : Int) < B (x + 1) - B x → Lk n B d (P (B x + d).toNat) ∧ Lk n B d (Q (B x + d).toNat)) ∧
  (2 ≤ n → 1 ≤ B (x + 1) - B x ∧ Q (B x).toNat = ((x : Int) + 1) % n ∧ P (B x).toNat = ((x : Int) + n - 1) % n)
def AllTo (n : Nat) (B P Q : Nat → Int) (k : Nat) : Prop := ∀ x, x < k → Node n B P Q x
theorem AllTo.start {n : Nat} {B P Q : Nat → Int} : AllTo n B P Q 0 := fun _ h => absurd h (Nat.not_lt_zero _)
theorem AllTo.step {n : Nat} {B P Q : Nat → Int} {k : Nat} (h : AllTo n B P Q k) (hk : Node n B P Q k) : AllTo n B P Q (k + 1) := fun x hx => by
  by_cases e : x = k
  · subst e; exact hk
  · exact h x (by omega)
theorem AllTo.done {n nb : Nat} {S : Nat → ByteArray} {B P Q : Nat → Int} (h : AllTo n B P Q n) (pos : 0 < n) (first : (S 0).toList = []) (mono : ∀ i, i + 1 < n → leS (S i) (S (i + 1)) = true)
    (b0 : B 0 = 0) (bmono : ∀ i, i < n → B i ≤ B (i + 1)) (bn : B n = nb) : WF n nb S B P Q :=
  ⟨pos, first, mono, b0, bmono, bn, fun x hx => (h x hx).1, fun h2 x hx => (h x hx).2 h2⟩
/-- What the fourth loop has seen of one node's bands. -/
def LinksTo (n : Nat) (B P Q : Nat → Int) (x k : Nat) : Prop := ∀ d : Nat, d < k → Lk n B d (P (B x + d).toNat) ∧ Lk n B d (Q (B x + d).toNat)
theorem LinksTo.start {n : Nat} {B P Q : Nat → Int} {x : Nat} : LinksTo n B P Q x 0 := fun _ h => absurd h (Nat.not_lt_zero _)
theorem LinksTo.step {n : Nat} {B P Q : Nat → Int} {x k : Nat} (h : LinksTo n B P Q x k) (hk : Lk n B k (P (B x + k).toNat) ∧ Lk n B k (Q (B x + k).toNat)) : LinksTo n B P Q x (k + 1) := fun d hd => by
  by_cases e : d = k
  · subst e; exact hk
  · exact h d (by omega)

set_option maxRecDepth 100000 in
set_option maxHeartbeats 1000000 in
theorem form_any (sa ba pa qa : Option Addr) (n n1 n2 n3 sc bc pc qc : Nat) (S : Nat → ByteArray) (B P Q : Nat → Int) (w : World) (hn : n ≤ 1048576) (hn1 : n1 ≤ 1048576) (hn2 : n2 ≤ 1048576) (hn3 : n3 ≤ 1048576)
    (hS : SRow w sa n S) (hB : IRow .i64 w ba n1 B) (hP : IRow .i32 w pa n2 P) (hQ : IRow .i32 w qa n3 Q)
    (bP : ∀ i, i < n2 → -2147483648 ≤ P i ∧ P i ≤ 2147483647) (bQ : ∀ i, i < n3 → -2147483648 ≤ Q i ∧ Q i ≤ 2147483647) :
    Calls Try.prog 18 #[.slice sa n sc, .slice ba n1 bc, .slice pa n2 pc, .slice qa n3 qc] w fun e w' => BoolOf (n1 = n + 1 ∧ n2 = n3 ∧ WF n n2 S B P Q) e ∧ Below w.heap.size w w' := by
  by_cases hn0 : n = 0
  · subst hn0
    go_enter Try.func18, Try.ntmps18
    go_wp2
    go_ret
    exact ⟨BoolOf.no, Below.refl _ _⟩
  obtain ⟨sb, so, rfl, hsc⟩ := hS.at (by omega)
  have s0 := hsc 0 (by omega)
  simp only [Nat.add_zero] at s0
  cases hf : (S 0).toList.isEmpty
  · go_enter Try.func18, Try.ntmps18
    go_wp2
    go_ret
    exact ⟨BoolOf.no, Below.refl _ _⟩
  have hf' : (S 0).toList = [] := by simpa using hf
  have HF : Hid ((S 0).toList = []) := hf'
  have hq0 : ((n : Int) == 0) = false := by simp; omega
  clear hf'
  go_enter Try.func18, Try.ntmps18
  go_wp2
  clear hf s0
  go_loopw [10] (fun i wr => ∃ k : Nat, k + 1 ≤ n ∧ i = .int .i64 k ∧ (∀ j, j < k → leS (S j) (S (j + 1)) = true) ∧ Below w.heap.size w wr) (fun i _ => n - (intOf i).toNat)
  case atStart => exact ⟨0, by omega, rfl, by simp, Below.refl _ _⟩
  case round =>
    obtain ⟨k, hk, rfl, hm, hb⟩ := hrel
    by_cases hlt : k + 1 < n
    · have c0 := cell_below hb (hsc k (by omega))
      have c1 := cell_below hb (hsc (k + 1) (by omega))
      have fin : leS (S k) (S (k + 1)) = true → ∀ j, j < k + 1 → leS (S j) (S (j + 1)) = true := fun e j hj => by
        by_cases ej : j = k
        · subst ej; exact e
        · exact hm j (by omega)
      cases h1 : Op.bytesLess (S k).toList (S (k + 1)).toList
      · cases h2 : ((S k).toList == (S (k + 1)).toList)
        · go_wp2_with fail
          go_quiet (fail)
          go_wp2
          go_ret
          exact ⟨BoolOf.no, below_drewN hb _⟩
        · have FIN : Hid _ := fin (by simp [leS, h1, h2])
          clear fin hm
          go_wp2_with fail
          go_quiet (fail)
          go_wp2
          go_roundw
          case rel => exact ⟨k + 1, by omega, by go_num, FIN.out, below_drewN hb _⟩
          case measure => simp [intOf]; omega
      · have FIN : Hid _ := fin (by simp [leS, h1])
        clear fin hm
        go_wp2_with fail
        go_quiet (fail)
        go_wp2
        go_roundw
        case rel => exact ⟨k + 1, by omega, by go_num, FIN.out, below_drewN hb _⟩
        case measure => simp [intOf]; omega
    · have HM : Hid (∀ j, j + 1 < n → leS (S j) (S (j + 1)) = true) := fun j hj => hm j (by omega)
      clear hm
      by_cases t1 : n1 = n + 1
      · subst t1
        obtain ⟨ab, ao, rfl, hac⟩ := hB.at (by omega)
        have a0 := cell_below hb (hac 0 (by omega))
        simp only [Nat.add_zero] at a0
        by_cases t2 : B 0 = 0
        · rw [t2] at a0
          have HB0 : Hid (B 0 = 0) := t2
          clear t2
          go_wp2
          clear a0
          go_loopw [11] (fun i wr => ∃ k : Nat, k ≤ n ∧ i = .int .i64 k ∧ (∀ j, j < k → B j ≤ B (j + 1)) ∧ Below w.heap.size w wr) (fun i _ => n - (intOf i).toNat)
          case atStart => exact ⟨0, by omega, rfl, by simp, hb⟩
          case round =>
            clear hk hb hlt
            obtain ⟨k, hk, rfl, hm, hb⟩ := hrel
            by_cases hlt : k < n
            · have c0 := cell_below hb (hac k (by omega))
              have c1 := cell_below hb (hac (k + 1) (by omega))
              by_cases t3 : B (k + 1) < B k
              · clear hm
                go_wp2_with fail
                go_quiet (fail)
                go_wp2
                go_ret
                exact ⟨BoolOf.no, below_drewN hb _⟩
              · have FIN : Hid (∀ j, j < k + 1 → B j ≤ B (j + 1)) := fun j hj => by
                  by_cases ej : j = k
                  · subst ej; omega
                  · exact hm j (by omega)
                clear hm
                go_wp2_with fail
                go_quiet (fail)
                go_wp2
                go_roundw
                case rel => exact ⟨k + 1, by omega, by go_num, FIN.out, below_drewN hb _⟩
                case measure => simp [intOf]; omega
            · obtain rfl : n = k := by omega
              have HBM : Hid (∀ j, j < n → B j ≤ B (j + 1)) := hm
              clear hm
              have an := cell_below hb (hac n (by omega))
              by_cases t3 : B n = n2
              · by_cases t4 : n2 = n3
                · subst t4
                  rw [t3] at an
                  have HBN : Hid (B n = n2) := t3
                  clear t3
                  go_wp2
                  clear an
                  go_loopw [13] (fun i wr => ∃ x : Nat, x ≤ n ∧ i = .int .i64 x ∧ AllTo n B P Q x ∧ Below w.heap.size w wr) (fun i _ => n - (intOf i).toNat)
                  case atStart => exact ⟨0, by omega, rfl, AllTo.start, hb⟩
                  case round =>
                    clear hk hb hlt
                    obtain ⟨x, hx, rfl, hall, hb⟩ := hrel
                    by_cases hlt : x < n
                    · have c0 := cell_below hb (hac x (by omega))
                      have c1 := cell_below hb (hac (x + 1) (by omega))
                      have bd0 := b_bd HB0.out HBM.out HBN.out x (by omega)
                      have bd1 := b_bd HB0.out HBM.out HBN.out (x + 1) (by omega)
                      have bm := HBM.out x hlt
                      by_cases t5 : 2 ≤ n ∧ B (x + 1) - B x < 1
                      · obtain ⟨t5, t6⟩ := t5
                        clear hall
                        go_wp2_with fail
                        go_quiet (fail)
                        go_wp2
                        go_ret
                        exact ⟨BoolOf.no, below_drewN hb _⟩
                      · have t5' : n < 2 ∨ (2 ≤ n ∧ 1 ≤ B (x + 1) - B x) := by omega
                        clear t5
                        rcases t5' with t5 | ⟨t5, t5b⟩
                        · go_wp2_with fail
                          go_quiet (fail)
                          go_wp2
                          have hb1 := below_drewN hb nq
                          clear hb c0 c1
                          go_loopw [15] (fun i wr => ∃ d : Nat, (d : Int) ≤ B (x + 1) - B x ∧ i = .int .i64 d ∧ LinksTo n B P Q x d ∧ Below w.heap.size w wr) (fun i _ => n2 - (intOf i).toNat)
                          case atStart => exact ⟨0, by omega, rfl, LinksTo.start, hb1⟩
                          case round =>
                            clear hb1
                            obtain ⟨d, hd, rfl, hlk, hb⟩ := hrel
                            have c0 := cell_below hb (hac x (by omega))
                            by_cases hdk : (d : Int) < B (x + 1) - B x
                            · obtain ⟨pb, po, rfl, hpc⟩ := hP.at (by omega)
                              obtain ⟨qb, qo, rfl, hqc⟩ := hQ.at (by omega)
                              have cp := cell_below hb (hpc (B x + d).toNat (by omega))
                              have cq := cell_below hb (hqc (B x + d).toNat (by omega))
                              have bp := bP (B x + d).toNat (by omega)
                              have bq := bQ (B x + d).toNat (by omega)
                              obtain ⟨p, hp⟩ : ∃ p, p = P (B x + d).toNat := ⟨_, rfl⟩
                              obtain ⟨q, hq⟩ : ∃ q, q = Q (B x + d).toNat := ⟨_, rfl⟩
                              rw [← hp] at cp bp
                              rw [← hq] at cq bq
                              have HP' : Hid (p = P (B x + d).toNat) := hp
                              have HQ' : Hid (q = Q (B x + d).toNat) := hq
                              clear hp hq
                              by_cases t6 : 0 ≤ p ∧ p < n ∧ 0 ≤ q ∧ q < n
                              · obtain ⟨t6, t7, t8, t9⟩ := t6
                                obtain ⟨p, rfl⟩ : ∃ k : Nat, p = k := ⟨p.toNat, by omega⟩
                                obtain ⟨q, rfl⟩ : ∃ k : Nat, q = k := ⟨q.toNat, by omega⟩
                                go_wp2
                                have e1 := cell_below hb (hac (p + 1) (by omega))
                                have e0 := cell_below hb (hac p (by omega))
                                have f1 := cell_below hb (hac (q + 1) (by omega))
                                have f0 := cell_below hb (hac q (by omega))
                                have be1 := b_bd HB0.out HBM.out HBN.out (p + 1) (by omega)
                                have be0 := b_bd HB0.out HBM.out HBN.out p (by omega)
                                have bf1 := b_bd HB0.out HBM.out HBN.out (q + 1) (by omega)
                                have bf0 := b_bd HB0.out HBM.out HBN.out q (by omega)
                                by_cases t10 : B (p + 1) - B p ≤ d
                                · clear hlk
                                  go_quiet (fail)
                                  go_wp2
                                  go_ret
                                  exact ⟨BoolOf.no, below_drewN hb _⟩
                                · have g10 : decide (B (p + 1) - B p ≤ d) = false := decide_eq_false t10
                                  by_cases t11 : B (q + 1) - B q ≤ d
                                  · clear hlk
                                    go_quiet (fail)
                                    go_wp2
                                    go_ret
                                    exact ⟨BoolOf.no, below_drewN hb _⟩
                                  · have FIN : Hid (LinksTo n B P Q x (d + 1)) := hlk.step ⟨by rw [← HP'.out]; exact ⟨t6, t7, by simp only [Int.toNat_natCast]; omega⟩, by rw [← HQ'.out]; exact ⟨t8, t9, by simp only [Int.toNat_natCast]; omega⟩⟩
                                    clear hlk
                                    go_quiet (fail)
                                    go_wp2
                                    go_roundw
                                    case rel => exact ⟨d + 1, by omega, by go_num, FIN.out, below_drewN hb _⟩
                                    case measure => simp [intOf]; omega
                              · clear hlk
                                go_wp2
                                all_goals go_ret
                                all_goals exact ⟨BoolOf.no, hb⟩
                            · have FIN : Hid (AllTo n B P Q (x + 1)) := hall.step ⟨fun d' hd' => hlk d' (by omega), fun h2 => absurd h2 (by omega)⟩
                              clear hall hlk
                              go_wp2
                              go_roundw
                              case rel => exact ⟨x + 1, by omega, by go_num, FIN.out, hb⟩
                              case measure => simp [intOf]; omega
                        · go_wp2_with fail
                          go_quiet (fail)
                          go_wp2
                          have hb1 := below_drewN hb nq
                          clear hb c0 c1
                          go_loopw [15] (fun i wr => ∃ d : Nat, (d : Int) ≤ B (x + 1) - B x ∧ i = .int .i64 d ∧ LinksTo n B P Q x d ∧ Below w.heap.size w wr) (fun i _ => n2 - (intOf i).toNat)
                          case atStart => exact ⟨0, by omega, rfl, LinksTo.start, hb1⟩
                          case round =>
                            clear hb1
                            obtain ⟨d, hd, rfl, hlk, hb⟩ := hrel
                            have c0 := cell_below hb (hac x (by omega))
                            by_cases hdk : (d : Int) < B (x + 1) - B x
                            · obtain ⟨pb, po, rfl, hpc⟩ := hP.at (by omega)
                              obtain ⟨qb, qo, rfl, hqc⟩ := hQ.at (by omega)
                              have cp := cell_below hb (hpc (B x + d).toNat (by omega))
                              have cq := cell_below hb (hqc (B x + d).toNat (by omega))
                              have bp := bP (B x + d).toNat (by omega)
                              have bq := bQ (B x + d).toNat (by omega)
                              obtain ⟨p, hp⟩ : ∃ p, p = P (B x + d).toNat := ⟨_, rfl⟩
                              obtain ⟨q, hq⟩ : ∃ q, q = Q (B x + d).toNat := ⟨_, rfl⟩
                              rw [← hp] at cp bp
                              rw [← hq] at cq bq
                              have HP' : Hid (p = P (B x + d).toNat) := hp
                              have HQ' : Hid (q = Q (B x + d).toNat) := hq
                              clear hp hq
                              by_cases t6 : 0 ≤ p ∧ p < n ∧ 0 ≤ q ∧ q < n
                              · obtain ⟨t6, t7, t8, t9⟩ := t6
                                obtain ⟨p, rfl⟩ : ∃ k : Nat, p = k := ⟨p.toNat, by omega⟩
                                obtain ⟨q, rfl⟩ : ∃ k : Nat, q = k := ⟨q.toNat, by omega⟩
                                go_wp2
                                have e1 := cell_below hb (hac (p + 1) (by omega))
                                have e0 := cell_below hb (hac p (by omega))
                                have f1 := cell_below hb (hac (q + 1) (by omega))
                                have f0 := cell_below hb (hac q (by omega))
                                have be1 := b_bd HB0.out HBM.out HBN.out (p + 1) (by omega)
                                have be0 := b_bd HB0.out HBM.out HBN.out p (by omega)
                                have bf1 := b_bd HB0.out HBM.out HBN.out (q + 1) (by omega)
                                have bf0 := b_bd HB0.out HBM.out HBN.out q (by omega)
                                by_cases t10 : B (p + 1) - B p ≤ d
                                · clear hlk
                                  go_quiet (fail)
                                  go_wp2
                                  go_ret
                                  exact ⟨BoolOf.no, below_drewN hb _⟩
                                · have g10 : decide (B (p + 1) - B p ≤ d) = false := decide_eq_false t10
                                  by_cases t11 : B (q + 1) - B q ≤ d
                                  · clear hlk
                                    go_quiet (fail)
                                    go_wp2
                                    go_ret
                                    exact ⟨BoolOf.no, below_drewN hb _⟩
                                  · have FIN : Hid (LinksTo n B P Q x (d + 1)) := hlk.step ⟨by rw [← HP'.out]; exact ⟨t6, t7, by simp only [Int.toNat_natCast]; omega⟩, by rw [← HQ'.out]; exact ⟨t8, t9, by simp only [Int.toNat_natCast]; omega⟩⟩
                                    clear hlk
                                    go_quiet (fail)
                                    go_wp2
                                    go_roundw
                                    case rel => exact ⟨d + 1, by omega, by go_num, FIN.out, below_drewN hb _⟩
                                    case measure => simp [intOf]; omega
                              · clear hlk
                                go_wp2
                                all_goals go_ret
                                all_goals exact ⟨BoolOf.no, hb⟩
                            · obtain ⟨pb, po, rfl, hpc⟩ := hP.at (by omega)
                              obtain ⟨qb, qo, rfl, hqc⟩ := hQ.at (by omega)
                              have cp := cell_below hb (hpc (B x).toNat (by omega))
                              have cq := cell_below hb (hqc (B x).toNat (by omega))
                              have bp := bP (B x).toNat (by omega)
                              have bq := bQ (B x).toNat (by omega)
                              obtain ⟨p, hp⟩ : ∃ p, p = P (B x).toNat := ⟨_, rfl⟩
                              obtain ⟨q, hq⟩ : ∃ q, q = Q (B x).toNat := ⟨_, rfl⟩
                              rw [← hp] at cp bp
                              rw [← hq] at cq bq
                              have HP' : Hid (p = P (B x).toNat) := hp
                              have HQ' : Hid (q = Q (B x).toNat) := hq
                              clear hp hq
                              have fin : q = ((x : Int) + 1) % n → p = ((x : Int) + n - 1) % n → AllTo n B P Q (x + 1) := fun e1 e2 => hall.step ⟨fun d' hd' => hlk d' (by omega), fun _ => ⟨by omega, by rw [← HQ'.out]; exact e1, by rw [← HP'.out]; exact e2⟩⟩
                              have FIN : Hid _ := fin
                              clear hall hlk fin
                              go_wp2
                              by_cases t12 : q = ((x : Int) + 1) % n
                              · subst t12
                                have g12 : (((x : Int) + 1) % n != ((x : Int) + 1) % n) = false := by simp
                                by_cases t13 : p = ((x : Int) + n - 1) % n
                                · subst t13
                                  have FIN' : Hid (AllTo n B P Q (x + 1)) := FIN.out rfl rfl
                                  clear FIN
                                  go_quiet (fail)
                                  go_wp2
                                  go_roundw
                                  case rel => exact ⟨x + 1, by omega, by go_num, FIN'.out, below_drewN hb _⟩
                                  case measure => simp [intOf]; omega
                                · have g13 : (p != ((x : Int) + n - 1) % n) = true := by simpa using t13
                                  go_quiet (fail)
                                  go_wp2
                                  go_ret
                                  exact ⟨BoolOf.no, below_drewN hb _⟩
                              · have g12 : (q != ((x : Int) + 1) % n) = true := by simpa using t12
                                go_quiet (fail)
                                go_wp2
                                go_ret
                                exact ⟨BoolOf.no, below_drewN hb _⟩
                    · obtain rfl : n = x := by omega
                      have FIN : Hid (WF n n2 S B P Q) := hall.done (by omega) HF.out HM.out HB0.out HBM.out HBN.out
                      clear hall
                      go_wp2
                      go_ret
                      exact ⟨BoolOf.yes (by first | exact ⟨rfl, rfl, FIN.out⟩ | simpa using FIN.out), hb⟩
                · go_wp2
                  go_ret
                  exact ⟨BoolOf.no, hb⟩
              · go_wp2
                go_ret
                exact ⟨BoolOf.no, hb⟩
        · go_wp2
          go_ret
          exact ⟨BoolOf.no, hb⟩
      · go_wp2
        go_ret
        exact ⟨BoolOf.no, hb⟩
end Go.Proofs.Qxb6603720a
