/- FnErrTellsWhetherAllAreStrings: function 5. -/
import Derived.Test.Qxb6604339aFmtHead
import Derived.Test.Qxb6604339aFmtRd
import Derived.Test.Qxb6604339aFmtClone
namespace Go.Proofs.Qxb6604339aFmt
open Go.RowKit Go.Extern.Stop Go.Stop Go.Extern

theorem items_val (w : World) (R n c : Nat) (a : Option Addr) (ev : Value) (hh : w.heap[R]? = some (.cells #[.slice a n c, ev] 49 (0, 0))) :
    Calls Tryf.prog 16 #[.pointer (some ⟨R, 0, none⟩)] w fun e w' => e = .returned (.slice a n c) ∧ w' = w := by
  obtain ⟨h0, h1, h2, h5, h6⟩ := Rd.cells hh
  clear hh
  go_enter Tryf.func16, Tryf.ntmps16
  go_wp2
  go_ret
  exact ⟨rfl, rfl⟩
theorem err_no (w : World) (R n : Nat) (L : Nat → Nat) (h : Rd w R n L false) :
    Calls Tryf.prog 14 #[.pointer (some ⟨R, 0, none⟩)] w fun e w' => e = .returned .nilIface ∧ w' = w := by
  refine (err_any w R n L false h).mono ?_
  rintro e w' ⟨⟨ev, rfl, hev, -⟩, rfl⟩
  exact ⟨by rw [hev rfl], rfl⟩
theorem err_yes (w : World) (R n : Nat) (L : Nat → Nat) (h : Rd w R n L true) :
    Calls Tryf.prog 14 #[.pointer (some ⟨R, 0, none⟩)] w fun e w' => (∃ x, e = .returned (.iface 64 (.pointer (some x)))) ∧ w' = w := by
  refine (err_any w R n L true h).mono ?_
  rintro e w' ⟨⟨ev, rfl, -, hev⟩, rfl⟩
  obtain ⟨x, rfl⟩ := hev rfl
  exact ⟨⟨x, rfl⟩, rfl⟩
theorem neq22 (w : World) (a : Option Addr) (n c : Nat) : (binOp .neq 22 (.slice a n c) (.slice none 0 0)).run Tryf.prog w = .ok (.bool !a.isNone) w := run_neq_slice_nil_any w 22 5 a n c 0 0 Tryf.underlying22

theorem bytes20_any (a : Option Addr) (n c : Nat) (nm : ByteArray) (w : World) (hn : n ≤ 524288) (hk : nm.size ≤ 524288) :
    Calls Tryf.prog 20 #[.slice a n c, .string nm] w fun e w' => e = .returned (.bool true) ∧ w' = w := by
  go_enter Tryf.func20, Tryf.ntmps20
  go_wp2
  go_ret
  exact ⟨rfl, rfl⟩
theorem bytes20_bool (a : Option Addr) (n c : Nat) (nm : ByteArray) (w : World) (hn : n ≤ maxLen) (hk : nm.size ≤ maxLen) :
    Calls Tryf.prog 20 #[.slice a n c, .string nm] w fun e w' => BoolOf True e ∧ w' = w := by
  unfold maxLen at hn hk
  go_enter Tryf.func20, Tryf.ntmps20
  go_wp2
  all_goals go_ret
  all_goals exact ⟨BoolOf.triv, rfl⟩

theorem Rd.shift {w : World} {R n p k : Nat} {L : Nat → Nat} {f : Bool} (h : Rd w R (n - p - k) (fun i => L (p + (k + i))) f) : Rd w R (n - (p + k)) (fun i => L (p + k + i)) f := by
  rw [show n - (p + k) = n - p - k from by omega, show (fun i => L (p + k + i)) = (fun i => L (p + (k + i))) from funext fun i => by rw [Nat.add_assoc]]
  exact h

set_option maxRecDepth 100000 in
set_option maxHeartbeats 4000000 in
theorem law5 (F : Interp) (a : Option Addr) (n c : Nat) (L : Nat → Nat) (nm : ByteArray) (w : World) (hF : F.answers w.tape) (hE : Errs w w.heap.size)
    (hL : ∀ i, L i < 256) (hn : n ≤ maxLen) (hk : nm.size ≤ maxLen) (na : a = none → c = 0) (hI : IRow .u8 w a n (fun i => (L i : Int))) :
    Calls Tryf.prog 5 #[.slice a n c, .string nm] w fun e w' => e = .returned (.bool true) ∧ Below w.heap.size w w' := by
  have q := nil22
  have q2 := neq22
  by_cases hl : n ≤ 524288 ∧ nm.size ≤ 524288
  · obtain ⟨l1, l3⟩ := hl
    clear hn hk
    go_enter Tryf.func5, Tryf.ntmps5
    go_wp2_with fail
    refine (bytes20_any a n c nm w l1 l3).mono ?_
    rintro e w' ⟨rfl, hw⟩
    obtain rfl := hw.symm
    go_wp2_with fail
    refine (clone10_any a n c _ w (by omega) na hI).mono ?_
    rintro e w3 ⟨a1, c1, rfl, -, hc1, hc1', hbw3, hI1⟩
    obtain rfl : n = c1 := by omega
    have rI := BR.ofI hI1
    have hE3 : Errs w3 w3.heap.size := (hE.below hbw3).mono hbw3.size
    clear hI hI1 hE hc1 hc1'
    go_wp2_with fail
    refine (newReader_any w3 a1 n n L rI (Nat.le_refl _)).mono ?_
    rintro e w4 ⟨rfl, hrd, hb4⟩
    have hE4 := hE3.below hb4
    have rI4 := rI.below hb4
    obtain ⟨R, hR⟩ : ∃ R, R = w3.heap.size := ⟨_, rfl⟩
    rw [← hR] at hrd hE4 hb4 rI4 ⊢
    have hRw : w.heap.size ≤ R := by rw [hR]; exact hbw3.size
    have HR : Hid (R = w3.heap.size) := hR
    have hbw4 : Below w.heap.size w w4 := hbw3.trans (hb4.mono hRw)
    have hF4 : F.answers w4.tape := by rw [hbw4.tape]; exact hF
    have HL : Hid (∀ i, L i < 256) := hL
    clear hR rI hE3 hbw3 hb4 hF hL
    go_wp2
    go_loopw [6, 7, 8] (fun pv fv sv wr => ∃ p st : Nat, p ≤ n ∧ st ≤ p ∧ pv = .int .i64 p ∧ fv = .bool false ∧ sv = .int .i64 st ∧ Rd wr R (n - p) (fun i => L (p + i)) false ∧ Below R w4 wr) (fun _ _ sv _ => n + 1 - (intOf sv).toNat)
    case atStart => exact ⟨0, 0, by omega, by omega, rfl, rfl, rfl, by simpa using hrd, Below.refl _ _⟩
    case round =>
      clear hrd
      obtain ⟨p, st, hp, hst, rfl, rfl, rfl, hrd, hbr⟩ := hrel
      have hbwr : Below w.heap.size w wr := hbw4.trans (hbr.mono hRw)
      have rI5 := rI4.below hbr
      by_cases hpe : p = n
      · subst hpe
        go_wp2_with fail
        have hrd0 : Rd wr R 0 (fun i => L (p + i)) false := by have := hrd; rwa [Nat.sub_self] at this
        refine (err_no wr R 0 _ hrd0).mono ?_
        rintro e w' ⟨rfl, hw⟩
        obtain rfl := hw.symm
        obtain ⟨a8, c8, ev8, hh8, hc8, hr8, -, -⟩ := hrd0
        have r9 : BR wr R a1 0 (fun i => L (p + i)) := ⟨fun _ => rfl, fun x hx i hi => absurd hi (Nat.not_lt_zero _)⟩
        clear hrd
        go_wp2
        go_quiet ((first | (go_at_call 16; exact Calls.quiet_of_same (items_val _ R 0 c8 a8 ev8 (by exact hh8))) | (go_at_call 15; exact Calls.quiet_of (same_yes _ R a8 a1 0 c8 0 _ _ (by omega) (by exact hr8) (by exact r9) (fun i hi => rfl)))))
        go_wp2
        go_ret
        exact ⟨rfl, below_drewN hbwr _⟩
      · obtain ⟨b, o, hae, hbR, hcl⟩ := rI5.at (by omega)
        cases hae
        have hpq : ((p : Int) == (n : Int)) = false := by simp; omega
        have hpn : p < n := by omega
        have rR : BR wr R (some ⟨b, o + p, none⟩) (n - p) (fun i => L (p + i)) := by
          have := rI5.drop (c := n) (l := p) (Nat.le_refl _)
          rw [if_neg (by omega), add_lit] at this
          exact this
        have hE5 := hE4.below hbr
        have hF5 : F.answers wr.tape := by rw [hbr.tape]; exact hF4
        clear hcl hpe
        go_wp2_with fail
        refine (zzHead_any (some ⟨b, o + p, none⟩) (n - p) (n - p) (fun i => L (p + i)) (fun i => HL.out _) wr R rR (by omega)).mono ?_
        rintro e w' ⟨rfl, hw⟩
        obtain rfl := hw.symm
        have hfit := headH_fits (n - p) (fun i => L (p + i))
        obtain ⟨h, hh⟩ : ∃ h, h = headH (n - p) (fun i => L (p + i)) := ⟨_, rfl⟩
        have HH : Hid (h = headH (n - p) (fun i => L (p + i))) := hh
        rw [← hh] at hfit ⊢
        clear hh
        obtain ⟨l, s, e, g, sh⟩ := h
        obtain ⟨f1, f2, f3, f4⟩ := hfit
        simp only at f1 f2 f3 f4
        unfold hdV
        simp only
        obtain ⟨y, hy, hry⟩ := rR.drop' (c := n - p) (Nat.le_refl _) s
        rw [add_lit] at hy
        have HRY : Hid (BR wr R (some y) (e - s) (fun i => L (p + (s + i)))) := hry.take (by omega)
        clear hry
        by_cases hok : g = true ∧ l = false
        · obtain ⟨rfl, rfl⟩ := hok
          have hsh := f4 rfl
          subst hsh
          have he := f3 rfl
          clear f3 f4
          go_wp2_with fail
          refine (bytes_ok wr R (n - p) (fun i => L (p + i)) (fun i => HL.out _) nm hE5 hrd (by omega) (by rw [← HH.out]) (by rw [← HH.out])).mono ?_
          rw [← HH.out]
          simp only
          rintro e5 w5 ⟨⟨x, c5, rfl, hc5, hr5⟩, hrd5, hb5⟩
          have HRY5 : Hid (BR w5 R (some y) (e - s) (fun i => L (p + (s + i)))) := HRY.out.below hb5
          have hrd6 := Rd.shift hrd5
          have hb6 : Below R w4 w5 := hbr.trans hb5
          clear hrd hrd5 rR rI5 HH HRY hE5 hF5 hb5 hbr hbwr
          go_wp2_with fail
          refine (same_yes w5 R (some x) (some y) (e - s) c5 (n - p - s) _ _ (by omega) hr5 HRY5.out (fun i _ => rfl)).mono ?_
          rintro e7 w7 ⟨rfl, k7, rfl⟩
          clear hr5 HRY5 hy
          go_wp2
          go_roundw
          case rel => exact ⟨p + e, st + 1, by omega, by omega, by go_num, rfl, by go_num, hrd6, below_drewN hb6 _⟩
          case measure => simp [intOf]; omega
        · go_wp2_with fail
          refine (bytes_no F wr R (n - p) (fun i => L (p + i)) (fun i => HL.out _) nm hF5 hE5 hrd (by omega) (by rw [← HH.out]; exact hok)).mono ?_
          rw [← HH.out]
          simp only
          rintro e5 w5 ⟨⟨a5, m5, c5, rfl, hs5, hn5⟩, hrd5, hb5⟩
          have HRY5 : Hid (BR w5 R (some y) (e - s) (fun i => L (p + (s + i)))) := HRY.out.below hb5
          have hb6 : Below R w4 w5 := hbr.trans hb5
          have hbw6 : Below w.heap.size w w5 := hbw4.trans (hb6.mono hRw)
          have rI6 := rI4.below hb6
          have hgl : g = false ∨ (g = true ∧ l = true) := by
            cases g
            · exact .inl rfl
            · cases l
              · exact absurd ⟨rfl, rfl⟩ hok
              · exact .inr ⟨rfl, rfl⟩
          clear hrd rR rI5 HH HRY hE5 hF5 hb5 hbr hbwr hok f3 f4
          cases sh
          · obtain ⟨rfl, rfl, rfl⟩ := hn5 rfl
            clear hs5 hn5 HRY5 hy
            rcases hgl with rfl | ⟨rfl, rfl⟩
            · cases l
              · go_wp2_with fail
                have hrd8 := hrd5
                have hbw8 := hbw6
                have rI8 := rI6
                obtain ⟨W8, hW8⟩ : ∃ W8, W8 = w5 := ⟨_, rfl⟩
                rw [← hW8] at hrd8 hbw8 rI8 ⊢
                clear hW8 hrd5 hbw6 rI6
                refine (err_yes W8 R (n - p) _ hrd8).mono ?_
                rintro e9 w9 ⟨⟨x9, rfl⟩, hw⟩
                obtain rfl := hw.symm
                go_wp2_with fail
                refine (bytes_failed W8 R (n - p) _ nm hrd8).mono ?_
                rintro e9 w9 ⟨rfl, hw⟩
                obtain rfl := hw.symm
                obtain ⟨a8, c8, ev8, hh8, hc8, hr8, -, -⟩ := hrd8
                have r9 : BR W8 R (some ⟨b, o + p, none⟩) (n - p) (fun i => L (p + i)) := by
                  have := rI8.drop (c := n) (l := p) (Nat.le_refl _)
                  rw [if_neg (by omega), add_lit] at this
                  exact this
                clear rI8
                go_wp2
                go_quiet ((first | (go_at_call 16; exact Calls.quiet_of_same (items_val _ R (n - p) c8 a8 ev8 (by exact hh8))) | (go_at_call 15; exact Calls.quiet_of (same_yes _ R a8 (some ⟨b, o + p, none⟩) (n - p) c8 (n - p) _ _ (by omega) (by exact hr8) (by exact r9) (fun i hi => rfl)))))
                go_wp2
                go_ret
                exact ⟨rfl, below_drewN hbw8 _⟩
              · go_wp2_with fail
                have hrd8 := hrd5
                have hbw8 := hbw6
                have rI8 := rI6
                obtain ⟨W8, hW8⟩ : ∃ W8, W8 = w5 := ⟨_, rfl⟩
                rw [← hW8] at hrd8 hbw8 rI8 ⊢
                clear hW8 hrd5 hbw6 rI6
                refine (err_yes W8 R (n - p) _ hrd8).mono ?_
                rintro e9 w9 ⟨⟨x9, rfl⟩, hw⟩
                obtain rfl := hw.symm
                go_wp2_with fail
                refine (bytes_failed W8 R (n - p) _ nm hrd8).mono ?_
                rintro e9 w9 ⟨rfl, hw⟩
                obtain rfl := hw.symm
                obtain ⟨a8, c8, ev8, hh8, hc8, hr8, -, -⟩ := hrd8
                have r9 : BR W8 R (some ⟨b, o + p, none⟩) (n - p) (fun i => L (p + i)) := by
                  have := rI8.drop (c := n) (l := p) (Nat.le_refl _)
                  rw [if_neg (by omega), add_lit] at this
                  exact this
                clear rI8
                go_wp2
                go_quiet ((first | (go_at_call 16; exact Calls.quiet_of_same (items_val _ R (n - p) c8 a8 ev8 (by exact hh8))) | (go_at_call 15; exact Calls.quiet_of (same_yes _ R a8 (some ⟨b, o + p, none⟩) (n - p) c8 (n - p) _ _ (by omega) (by exact hr8) (by exact r9) (fun i hi => rfl)))))
                go_wp2
                go_ret
                exact ⟨rfl, below_drewN hbw8 _⟩
            · go_wp2_with fail
              have hrd8 := hrd5
              have hbw8 := hbw6
              have rI8 := rI6
              obtain ⟨W8, hW8⟩ : ∃ W8, W8 = w5 := ⟨_, rfl⟩
              rw [← hW8] at hrd8 hbw8 rI8 ⊢
              clear hW8 hrd5 hbw6 rI6
              refine (err_yes W8 R (n - p) _ hrd8).mono ?_
              rintro e9 w9 ⟨⟨x9, rfl⟩, hw⟩
              obtain rfl := hw.symm
              go_wp2_with fail
              refine (bytes_failed W8 R (n - p) _ nm hrd8).mono ?_
              rintro e9 w9 ⟨rfl, hw⟩
              obtain rfl := hw.symm
              obtain ⟨a8, c8, ev8, hh8, hc8, hr8, -, -⟩ := hrd8
              have r9 : BR W8 R (some ⟨b, o + p, none⟩) (n - p) (fun i => L (p + i)) := by
                have := rI8.drop (c := n) (l := p) (Nat.le_refl _)
                rw [if_neg (by omega), add_lit] at this
                exact this
              clear rI8
              go_wp2
              go_quiet ((first | (go_at_call 16; exact Calls.quiet_of_same (items_val _ R (n - p) c8 a8 ev8 (by exact hh8))) | (go_at_call 15; exact Calls.quiet_of (same_yes _ R a8 (some ⟨b, o + p, none⟩) (n - p) c8 (n - p) _ _ (by omega) (by exact hr8) (by exact r9) (fun i hi => rfl)))))
              go_wp2
              go_ret
              exact ⟨rfl, below_drewN hbw8 _⟩
          · obtain ⟨x5, c6, hx5, hc6, hr5⟩ := hs5 rfl
            cases hx5
            clear hs5 hn5
            rcases hgl with rfl | ⟨rfl, rfl⟩
            · cases l
              · go_wp2_with fail
                refine (same_yes w5 R (some x5) (some y) (e - s) c5 (n - p - s) _ _ (by omega) hr5 HRY5.out (fun i _ => rfl)).mono ?_
                rintro e7 w7 ⟨rfl, k7, rfl⟩
                have hrd8 : Rd (w5.drewN k7) R (n - p) (fun i => L (p + i)) true := hrd5
                have hbw8 : Below w.heap.size w (w5.drewN k7) := below_drewN hbw6 _
                have rI8 : BR (w5.drewN k7) R (some ⟨b, o, none⟩) n L := rI6
                obtain ⟨W8, hW8⟩ : ∃ W8, W8 = w5.drewN k7 := ⟨_, rfl⟩
                rw [← hW8] at hrd8 hbw8 rI8 ⊢
                clear hW8 hrd5 hbw6 rI6 HRY5 hr5 hy
                go_wp2_with fail
                refine (err_yes W8 R (n - p) _ hrd8).mono ?_
                rintro e9 w9 ⟨⟨x9, rfl⟩, hw⟩
                obtain rfl := hw.symm
                go_wp2_with fail
                refine (bytes_failed W8 R (n - p) _ nm hrd8).mono ?_
                rintro e9 w9 ⟨rfl, hw⟩
                obtain rfl := hw.symm
                obtain ⟨a8, c8, ev8, hh8, hc8, hr8, -, -⟩ := hrd8
                have r9 : BR W8 R (some ⟨b, o + p, none⟩) (n - p) (fun i => L (p + i)) := by
                  have := rI8.drop (c := n) (l := p) (Nat.le_refl _)
                  rw [if_neg (by omega), add_lit] at this
                  exact this
                clear rI8
                go_wp2
                go_quiet ((first | (go_at_call 16; exact Calls.quiet_of_same (items_val _ R (n - p) c8 a8 ev8 (by exact hh8))) | (go_at_call 15; exact Calls.quiet_of (same_yes _ R a8 (some ⟨b, o + p, none⟩) (n - p) c8 (n - p) _ _ (by omega) (by exact hr8) (by exact r9) (fun i hi => rfl)))))
                go_wp2
                go_ret
                exact ⟨rfl, below_drewN hbw8 _⟩
              · go_wp2_with fail
                refine (same_yes w5 R (some x5) (some y) (e - s) c5 (n - p - s) _ _ (by omega) hr5 HRY5.out (fun i _ => rfl)).mono ?_
                rintro e7 w7 ⟨rfl, k7, rfl⟩
                have hrd8 : Rd (w5.drewN k7) R (n - p) (fun i => L (p + i)) true := hrd5
                have hbw8 : Below w.heap.size w (w5.drewN k7) := below_drewN hbw6 _
                have rI8 : BR (w5.drewN k7) R (some ⟨b, o, none⟩) n L := rI6
                obtain ⟨W8, hW8⟩ : ∃ W8, W8 = w5.drewN k7 := ⟨_, rfl⟩
                rw [← hW8] at hrd8 hbw8 rI8 ⊢
                clear hW8 hrd5 hbw6 rI6 HRY5 hr5 hy
                go_wp2_with fail
                refine (err_yes W8 R (n - p) _ hrd8).mono ?_
                rintro e9 w9 ⟨⟨x9, rfl⟩, hw⟩
                obtain rfl := hw.symm
                go_wp2_with fail
                refine (bytes_failed W8 R (n - p) _ nm hrd8).mono ?_
                rintro e9 w9 ⟨rfl, hw⟩
                obtain rfl := hw.symm
                obtain ⟨a8, c8, ev8, hh8, hc8, hr8, -, -⟩ := hrd8
                have r9 : BR W8 R (some ⟨b, o + p, none⟩) (n - p) (fun i => L (p + i)) := by
                  have := rI8.drop (c := n) (l := p) (Nat.le_refl _)
                  rw [if_neg (by omega), add_lit] at this
                  exact this
                clear rI8
                go_wp2
                go_quiet ((first | (go_at_call 16; exact Calls.quiet_of_same (items_val _ R (n - p) c8 a8 ev8 (by exact hh8))) | (go_at_call 15; exact Calls.quiet_of (same_yes _ R a8 (some ⟨b, o + p, none⟩) (n - p) c8 (n - p) _ _ (by omega) (by exact hr8) (by exact r9) (fun i hi => rfl)))))
                go_wp2
                go_ret
                exact ⟨rfl, below_drewN hbw8 _⟩
            · go_wp2_with fail
              refine (same_yes w5 R (some x5) (some y) (e - s) c5 (n - p - s) _ _ (by omega) hr5 HRY5.out (fun i _ => rfl)).mono ?_
              rintro e7 w7 ⟨rfl, k7, rfl⟩
              have hrd8 : Rd (w5.drewN k7) R (n - p) (fun i => L (p + i)) true := hrd5
              have hbw8 : Below w.heap.size w (w5.drewN k7) := below_drewN hbw6 _
              have rI8 : BR (w5.drewN k7) R (some ⟨b, o, none⟩) n L := rI6
              obtain ⟨W8, hW8⟩ : ∃ W8, W8 = w5.drewN k7 := ⟨_, rfl⟩
              rw [← hW8] at hrd8 hbw8 rI8 ⊢
              clear hW8 hrd5 hbw6 rI6 HRY5 hr5 hy
              go_wp2_with fail
              refine (err_yes W8 R (n - p) _ hrd8).mono ?_
              rintro e9 w9 ⟨⟨x9, rfl⟩, hw⟩
              obtain rfl := hw.symm
              go_wp2_with fail
              refine (bytes_failed W8 R (n - p) _ nm hrd8).mono ?_
              rintro e9 w9 ⟨rfl, hw⟩
              obtain rfl := hw.symm
              obtain ⟨a8, c8, ev8, hh8, hc8, hr8, -, -⟩ := hrd8
              have r9 : BR W8 R (some ⟨b, o + p, none⟩) (n - p) (fun i => L (p + i)) := by
                have := rI8.drop (c := n) (l := p) (Nat.le_refl _)
                rw [if_neg (by omega), add_lit] at this
                exact this
              clear rI8
              go_wp2
              go_quiet ((first | (go_at_call 16; exact Calls.quiet_of_same (items_val _ R (n - p) c8 a8 ev8 (by exact hh8))) | (go_at_call 15; exact Calls.quiet_of (same_yes _ R a8 (some ⟨b, o + p, none⟩) (n - p) c8 (n - p) _ _ (by omega) (by exact hr8) (by exact r9) (fun i hi => rfl)))))
              go_wp2
              go_ret
              exact ⟨rfl, below_drewN hbw8 _⟩
  · unfold maxLen at hn hk
    go_enter Tryf.func5, Tryf.ntmps5
    go_wp2_with fail
    refine (bytes20_bool a n c nm w (by unfold maxLen; omega) (by unfold maxLen; omega)).mono ?_
    rintro e w' ⟨⟨z, rfl, -⟩, hw⟩
    obtain rfl := hw.symm
    cases z
    · go_wp2
      go_ret
      exact ⟨rfl, Below.refl _ _⟩
    · go_wp2_with fail
      all_goals go_ret
      all_goals exact ⟨rfl, Below.refl _ _⟩
end Go.Proofs.Qxb6604339aFmt
