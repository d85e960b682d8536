/- Split: function 36. -/
import Derived.Test.Qxb6604339aFmtLong
namespace Go.Proofs.Qxb6604339aFmt
open Go.RowKit

/-- What Split hands back, by the head. -/
def SplitOut (w : World) (R n : Nat) (L : Nat → Nat) (h : Hd) (e : Ending) : Prop :=
  ∃ v1 v2 er, e = .returned (.tuple #[.int .i64 (if h.list = true then 1 else 0), v1, v2, er]) ∧
    (h.good = true → er = .nilIface ∧ Sl w R v1 (h.stop - h.start) (fun i => L (h.start + i)) ∧ Sl w R v2 (n - h.stop) (fun i => L (h.stop + i))) ∧
    (h.good = false → IsErr w R er ∧ (h.shown = true → Sl w R v1 (h.stop - h.start) (fun i => L (h.start + i))) ∧ (h.shown = false → v1 = .slice none 0 0) ∧ ∃ a m c, v2 = .slice a m c)
theorem SplitOut.no {w : World} {R n : Nat} {L : Nat → Nat} {h : Hd} {er : Value} (hg : h.good = false) (hs : h.shown = false) (he : IsErr w R er) {k : Int} (hk : k = if h.list = true then 1 else 0) :
    SplitOut w R n L h (.returned (.tuple #[.int .i64 k, .slice none 0 0, .slice none 0 0, er])) :=
  ⟨_, _, _, by rw [hk], (fun g => by rw [hg] at g; cases g), fun _ => ⟨he, (fun e => by rw [hs] at e; cases e), fun _ => rfl, _, _, _, rfl⟩⟩
theorem SplitOut.yes {w : World} {R n : Nat} {L : Nat → Nat} {h : Hd} {v1 v2 : Value} (hg : h.good = true) (h1 : Sl w R v1 (h.stop - h.start) (fun i => L (h.start + i))) (h2 : Sl w R v2 (n - h.stop) (fun i => L (h.stop + i))) {k : Int} (hk : k = if h.list = true then 1 else 0) :
    SplitOut w R n L h (.returned (.tuple #[.int .i64 k, v1, v2, .nilIface])) :=
  ⟨_, _, _, by rw [hk], fun _ => ⟨rfl, h1, h2⟩, (fun g => by rw [hg] at g; cases g)⟩
theorem SplitOut.half {w : World} {R n : Nat} {L : Nat → Nat} {h : Hd} {v1 v2 er : Value} (hg : h.good = false) (hs : h.shown = true) (he : IsErr w R er) (h1 : Sl w R v1 (h.stop - h.start) (fun i => L (h.start + i))) (h2 : ∃ a m c, v2 = .slice a m c) {k : Int} (hk : k = if h.list = true then 1 else 0) :
    SplitOut w R n L h (.returned (.tuple #[.int .i64 k, v1, v2, er])) :=
  ⟨_, _, _, by rw [hk], (fun g => by rw [hg] at g; cases g), fun _ => ⟨he, fun _ => h1, (fun e => by rw [hs] at e; cases e), h2⟩⟩

theorem results_tmp4 {fn : Func} {t u v x : Tmp} (h : fn.results = #[.tmp t, .tmp u, .tmp v, .tmp x]) (tmps : Array Value) (P : Program) (w : World) :
    (results fn tmps).run P w = .ok (.tuple #[tmps.getD t undef, tmps.getD u undef, tmps.getD v undef, tmps.getD x undef]) w := by
  simp [results, h]
theorem results_tmp5 {fn : Func} {t u v x y : Tmp} (h : fn.results = #[.tmp t, .tmp u, .tmp v, .tmp x, .tmp y]) (tmps : Array Value) (P : Program) (w : World) :
    (results fn tmps).run P w = .ok (.tuple #[tmps.getD t undef, tmps.getD u undef, tmps.getD v undef, tmps.getD x undef, tmps.getD y undef]) w := by
  simp [results, h]

set_option maxRecDepth 100000 in
set_option maxHeartbeats 400000 in
theorem split_empty (a : Option Addr) (c : Nat) (L : Nat → Nat) (w : World) (R : Nat) (hE : Errs w R) :
    Calls Tryf.prog 36 #[.slice a 0 c] w fun e w' => SplitOut w R 0 L (headH 0 L) e ∧ ∃ k, w' = w.drewN k := by
  obtain ⟨v, h3, a1, s, rfl, ha, hc⟩ := hE.e3
  go_enter Tryf.func36, Tryf.ntmps36
  go_wp2
  go_quiet (fail)
  go_wp2
  refine bodyPost_ret (results_tmp4 rfl _ _ _) rfl ?_
  exact ⟨SplitOut.no rfl rfl ⟨a1, s, rfl, ha, hc⟩ rfl, _, rfl⟩

set_option maxRecDepth 100000 in
set_option maxHeartbeats 400000 in
theorem split_one (x : Addr) (n c : Nat) (L : Nat → Nat) (w : World) (R : Nat) (hb : BR w R (some x) n L) (hc : n ≤ c) (hp : 0 < n) (h0 : L 0 < 128) :
    Calls Tryf.prog 36 #[.slice (some x) n c] w fun e w' => SplitOut w R n L ⟨false, 0, 1, true, true⟩ e ∧ ∃ k, w' = w.drewN k := by
  obtain ⟨b, o, hx, hbR, hcl⟩ := hb.at hp
  cases hx
  have c0 := hcl 0 hp
  simp only [Nat.add_zero] at c0
  obtain ⟨y, hy, hr⟩ := hb.drop' hc 1
  rw [add_lit] at hy
  have H1 : Hid (Sl w R (.slice (some ⟨b, o, none⟩) 1 c) (1 - 0) (fun i => L (0 + i))) := by simp only [Nat.zero_add]; exact Sl.take hb hc hp
  have H2 : Hid (Sl w R (.slice (some y) (n - 1) (c - 1)) (n - 1) (fun i => L (1 + i))) := Sl.of hr (by omega)
  have hq : (1 : Int) ≤ c := by omega
  have hq2 : (1 : Int) ≤ n := by omega
  clear hb hr hcl
  go_enter Tryf.func36, Tryf.ntmps36
  go_wp2
  go_quiet (fail)
  go_wp2
  refine bodyPost_ret (results_tmp4 rfl _ _ _) rfl ?_
  exact ⟨SplitOut.yes rfl H1.out H2.out rfl, _, rfl⟩

set_option maxRecDepth 100000 in
set_option maxHeartbeats 1000000 in
theorem split_short (x : Addr) (n c s : Nat) (L : Nat → Nat) (w : World) (R : Nat) (hE : Errs w R) (hb : BR w R (some x) n L) (hc : n ≤ c) (hn : n ≤ 4194304) (hp : 0 < n) (h0 : L 0 = 128 + s) (hs : s < 56) :
    Calls Tryf.prog 36 #[.slice (some x) n c] w fun e w' => SplitOut w R n L (shortH n L false s) e ∧ ∃ k, w' = w.drewN k := by
  obtain ⟨b, o, hx, hbR, hcl⟩ := hb.at hp
  cases hx
  have c0 : w.cell? ⟨b, o, none⟩ = some (.int .u8 (128 + (s : Int))) := by
    have := hcl 0 hp
    rw [h0] at this
    simpa using this
  obtain ⟨y, hy, hr⟩ := hb.drop' hc 1
  rw [add_lit] at hy
  have hq2 : (1 : Int) ≤ n := by omega
  have HR : Hid (BR w R (some y) (n - 1) (fun i => L (1 + i))) := hr
  clear h0 hr hcl
  by_cases t1 : n < 1 + s
  · have e : shortH n L false s = ⟨false, 0, 0, false, false⟩ := by unfold shortH; rw [if_pos t1]
    rw [e]
    clear e
    go_enter Tryf.func36, Tryf.ntmps36
    go_wp2_with fail
    rw [show (128 + (s : Int) - 128) = (s : Int) from by omega]
    refine (splitShort_no y (n - 1) (c - 1) s w R hE (by omega)).mono ?_
    rintro e w' ⟨⟨v, rfl, a, m, rfl, ha, hcs⟩, k, rfl⟩
    go_wp2
    refine bodyPost_ret (results_tmp4 rfl _ _ _) rfl ?_
    exact ⟨SplitOut.no rfl rfl ⟨a, m, rfl, ha, hcs⟩ rfl, _, rfl⟩
  · by_cases t2 : s = 1 ∧ L 1 < 128
    · obtain ⟨hs1, t3⟩ := t2
      have e : shortH n L false s = ⟨false, 1, 2, false, true⟩ := by unfold shortH; rw [if_neg t1, if_pos ⟨rfl, hs1, t3⟩]
      rw [e]
      clear e
      obtain ⟨v, h3, a, m, rfl, ha, hcs⟩ := hE.e0
      have hs0 : 0 < s := by omega
      have HS : Hid (s = 1) := hs1
      clear hs1
      rw [if_neg (by omega)] at hy
      cases hy
      go_enter Tryf.func36, Tryf.ntmps36
      go_wp2_with fail
      rw [show (128 + (s : Int) - 128) = (s : Int) from by omega]
      refine (splitShort_yes ⟨b, o + 1, none⟩ (n - 1) (c - 1) s (fun i => L (1 + i)) w R HR.out (by omega) (by omega)).mono ?_
      rintro e w' ⟨⟨v1, v2, rfl, h1, h2⟩, k, rfl⟩
      have H1 : Hid (Sl w R v1 (2 - 1) (fun i => L (1 + i))) := by rw [show 2 - 1 = s from HS.out.symm]; exact h1
      have hq3 : ((s : Int) == 1) = true := by have := HS.out; simp; omega
      obtain ⟨x1, c1, rfl, hc1, hr1⟩ := h1
      obtain ⟨x2, c2, rfl, hc2, hr2⟩ := h2
      obtain ⟨b1, o1, hx1, hb1, hcl1⟩ := hr1.at hs0
      cases hx1
      have d0 := hcl1 0 hs0
      simp only [Nat.add_zero] at d0
      clear hr1 hr2 hcl1
      go_wp2
      refine bodyPost_ret (results_tmp4 rfl _ _ _) rfl ?_
      exact ⟨SplitOut.half rfl rfl ⟨a, m, rfl, ha, hcs⟩ H1.out ⟨_, _, _, rfl⟩ rfl, _, rfl⟩
    · have e : shortH n L false s = ⟨false, 1, 1 + s, true, true⟩ := by unfold shortH; rw [if_neg t1, if_neg (by intro h; exact t2 h.2)]
      rw [e]
      clear e
      go_enter Tryf.func36, Tryf.ntmps36
      go_wp2_with fail
      rw [show (128 + (s : Int) - 128) = (s : Int) from by omega]
      refine (splitShort_yes y (n - 1) (c - 1) s (fun i => L (1 + i)) w R HR.out (by omega) (by omega)).mono ?_
      rintro e w' ⟨⟨v1, v2, rfl, h1, h2⟩, k, rfl⟩
      have H1 : Hid (Sl w R v1 (1 + s - 1) (fun i => L (1 + i))) := by rw [show 1 + s - 1 = s from by omega]; exact h1
      have H2 : Hid (Sl w R v2 (n - (1 + s)) (fun i => L (1 + s + i))) := by
        rw [show n - (1 + s) = n - 1 - s from by omega, show (fun i => L (1 + s + i)) = (fun i => L (1 + (s + i))) from funext fun i => by rw [Nat.add_assoc]]; exact h2
      obtain ⟨x1, c1, rfl, hc1, hr1⟩ := h1
      obtain ⟨x2, c2, rfl, hc2, hr2⟩ := h2
      clear hr2
      by_cases t4 : s = 1
      · have t5 : ¬ L 1 < 128 := fun h => t2 ⟨t4, h⟩
        have hq3 : ((s : Int) == 1) = true := by simp; omega
        have hs0 : 0 < s := by omega
        obtain ⟨b1, o1, hx1, hb1, hcl1⟩ := hr1.at hs0
        cases hx1
        have d0 := hcl1 0 hs0
        simp only [Nat.add_zero] at d0
        clear hr1 hcl1 t2 t4
        go_wp2
        refine bodyPost_ret (results_tmp4 rfl _ _ _) rfl ?_
        exact ⟨SplitOut.yes rfl H1.out H2.out rfl, _, rfl⟩
      · have hq3 : ((s : Int) == 1) = false := by simp; omega
        clear hr1 t2
        go_wp2
        refine bodyPost_ret (results_tmp4 rfl _ _ _) rfl ?_
        exact ⟨SplitOut.yes rfl H1.out H2.out rfl, _, rfl⟩

set_option maxRecDepth 100000 in
set_option maxHeartbeats 1000000 in
theorem split_shortL (x : Addr) (n c s : Nat) (L : Nat → Nat) (w : World) (R : Nat) (hE : Errs w R) (hb : BR w R (some x) n L) (hc : n ≤ c) (hn : n ≤ 4194304) (hp : 0 < n) (h0 : L 0 = 192 + s) (hs : s < 56) :
    Calls Tryf.prog 36 #[.slice (some x) n c] w fun e w' => SplitOut w R n L (shortH n L true s) e ∧ ∃ k, w' = w.drewN k := by
  obtain ⟨b, o, hx, hbR, hcl⟩ := hb.at hp
  cases hx
  have c0 : w.cell? ⟨b, o, none⟩ = some (.int .u8 (192 + (s : Int))) := by
    have := hcl 0 hp
    rw [h0] at this
    simpa using this
  obtain ⟨y, hy, hr⟩ := hb.drop' hc 1
  rw [add_lit] at hy
  have hq2 : (1 : Int) ≤ n := by omega
  have HR : Hid (BR w R (some y) (n - 1) (fun i => L (1 + i))) := hr
  clear h0 hr hcl
  by_cases t1 : n < 1 + s
  · have e : shortH n L true s = ⟨true, 0, 0, false, false⟩ := by unfold shortH; rw [if_pos t1]
    rw [e]
    clear e
    go_enter Tryf.func36, Tryf.ntmps36
    go_wp2_with fail
    rw [show (192 + (s : Int) - 192) = (s : Int) from by omega]
    refine (splitShort_no y (n - 1) (c - 1) s w R hE (by omega)).mono ?_
    rintro e w' ⟨⟨v, rfl, a, m, rfl, ha, hcs⟩, k, rfl⟩
    go_wp2
    refine bodyPost_ret (results_tmp4 rfl _ _ _) rfl ?_
    exact ⟨SplitOut.no rfl rfl ⟨a, m, rfl, ha, hcs⟩ rfl, _, rfl⟩
  · have e : shortH n L true s = ⟨true, 1, 1 + s, true, true⟩ := by unfold shortH; rw [if_neg t1, if_neg (by intro h; cases h.1)]
    rw [e]
    clear e
    go_enter Tryf.func36, Tryf.ntmps36
    go_wp2_with fail
    rw [show (192 + (s : Int) - 192) = (s : Int) from by omega]
    refine (splitShort_yes y (n - 1) (c - 1) s (fun i => L (1 + i)) w R HR.out (by omega) (by omega)).mono ?_
    rintro e w' ⟨⟨v1, v2, rfl, h1, h2⟩, k, rfl⟩
    have H1 : Hid (Sl w R v1 (1 + s - 1) (fun i => L (1 + i))) := by rw [show 1 + s - 1 = s from by omega]; exact h1
    have H2 : Hid (Sl w R v2 (n - (1 + s)) (fun i => L (1 + s + i))) := by
      rw [show n - (1 + s) = n - 1 - s from by omega, show (fun i => L (1 + s + i)) = (fun i => L (1 + (s + i))) from funext fun i => by rw [Nat.add_assoc]]; exact h2
    obtain ⟨x1, c1, rfl, hc1, hr1⟩ := h1
    obtain ⟨x2, c2, rfl, hc2, hr2⟩ := h2
    clear hr1 hr2
    go_wp2
    refine bodyPost_ret (results_tmp4 rfl _ _ _) rfl ?_
    exact ⟨SplitOut.yes rfl H1.out H2.out rfl, _, rfl⟩

set_option maxRecDepth 100000 in
set_option maxHeartbeats 1000000 in
theorem split_long (x : Addr) (n c k : Nat) (L : Nat → Nat) (hL : ∀ i, L i < 256) (w : World) (R : Nat) (hE : Errs w R) (hb : BR w R (some x) n L) (hc : n ≤ c) (hn : n ≤ 4194304) (hp : 0 < n) (h0 : L 0 = 183 + k) (hk : 1 ≤ k) (hk8 : k ≤ 8) :
    Calls Tryf.prog 36 #[.slice (some x) n c] w fun e w' => SplitOut w R n L (longH n L false k) e ∧ ∃ k, w' = w.drewN k := by
  obtain ⟨b, o, hx, hbR, hcl⟩ := hb.at hp
  cases hx
  have c0 : w.cell? ⟨b, o, none⟩ = some (.int .u8 (183 + (k : Int))) := by
    have := hcl 0 hp
    rw [h0] at this
    simpa using this
  obtain ⟨y, hy, hr⟩ := hb.drop' hc 1
  rw [add_lit] at hy
  have hq2 : (1 : Int) ≤ n := by omega
  have HR : Hid (BR w R (some y) (n - 1) (fun i => L (1 + i))) := hr
  have HL : Hid (∀ i, L i < 256) := hL
  clear h0 hr hcl hL
  by_cases t1 : n < 1 + k
  · have e : longH n L false k = ⟨false, 0, 0, false, false⟩ := by unfold longH; rw [if_pos t1]
    rw [e]
    clear e
    go_enter Tryf.func36, Tryf.ntmps36
    go_wp2_with fail
    rw [show (183 + (k : Int) - 128 - 55) = (k : Int) from by omega]
    refine (splitLong_short y (n - 1) (c - 1) k w R hE (by omega)).mono ?_
    rintro e w' ⟨⟨v, rfl, a, m, rfl, ha, hcs⟩, q, rfl⟩
    go_wp2
    refine bodyPost_ret (results_tmp4 rfl _ _ _) rfl ?_
    exact ⟨SplitOut.no rfl rfl ⟨a, m, rfl, ha, hcs⟩ rfl, _, rfl⟩
  rw [if_neg (by omega)] at hy
  cases hy
  by_cases t2 : L 1 = 0
  · have e : longH n L false k = ⟨false, 0, 0, false, false⟩ := by unfold longH; rw [if_neg t1, if_pos t2]
    rw [e]
    have HT2 : Hid (L 1 = 0) := t2
    clear e t2
    go_enter Tryf.func36, Tryf.ntmps36
    go_wp2_with fail
    rw [show (183 + (k : Int) - 128 - 55) = (k : Int) from by omega]
    refine (splitLong_zero ⟨b, o + 1, none⟩ (n - 1) (c - 1) k (fun i => L (1 + i)) w R hE HR.out hk (by omega) HT2.out).mono ?_
    rintro e w' ⟨⟨v, rfl, a, m, rfl, ha, hcs⟩, q, rfl⟩
    go_wp2
    refine bodyPost_ret (results_tmp4 rfl _ _ _) rfl ?_
    exact ⟨SplitOut.no rfl rfl ⟨a, m, rfl, ha, hcs⟩ rfl, _, rfl⟩
  go_enter Tryf.func36, Tryf.ntmps36
  go_wp2_with fail
  rw [show (183 + (k : Int) - 128 - 55) = (k : Int) from by omega]
  refine (splitLong_rest ⟨b, o + 1, none⟩ (n - 1) (c - 1) k (fun i => L (1 + i)) (fun i => HL.out _) w R hE HR.out (by omega) (by omega) hk hk8 (by omega) t2).mono ?_
  have en : num (fun i => L (1 + i)) 0 k = num L 1 k := num_shift L 1 0 k
  rw [en]
  clear en
  rintro e w' ⟨⟨tn, v, rfl, a, m, rfl, ha, hcs⟩ | ⟨tn, v1, v2, rfl, h1, h2⟩, q, rfl⟩
  · have e : longH n L false k = ⟨false, 0, 0, false, false⟩ := by unfold longH; rw [if_neg t1, if_neg t2, if_pos (by omega)]
    have FIN : Hid (SplitOut w R n L (longH n L false k) (.returned (.tuple #[.int .i64 0, .slice none 0 0, .slice none 0 0, .iface 66 (.pointer (some a))]))) := by
      rw [e]; exact SplitOut.no rfl rfl ⟨a, m, rfl, ha, hcs⟩ rfl
    clear e tn
    go_wp2
    refine bodyPost_ret (results_tmp4 rfl _ _ _) rfl ?_
    exact ⟨FIN.out, _, rfl⟩
  · obtain ⟨z, hz⟩ : ∃ z, z = num L 1 k := ⟨_, rfl⟩
    rw [← hz] at tn h1 h2
    have e : longH n L false k = ⟨false, 1 + k, 1 + k + z, true, true⟩ := by unfold longH; rw [if_neg t1, if_neg t2, if_neg (by omega), ← hz]
    have FIN : Hid (SplitOut w R n L (longH n L false k) (.returned (.tuple #[.int .i64 0, v1, v2, .nilIface]))) := by
      rw [e]
      refine SplitOut.yes rfl ?_ ?_ rfl
      · show Sl w R v1 (1 + k + z - (1 + k)) (fun i => L (1 + k + i))
        rw [show 1 + k + z - (1 + k) = z from by omega, show (fun i => L (1 + k + i)) = (fun i => L (1 + (k + i))) from funext fun i => by rw [Nat.add_assoc]]; exact h1
      · show Sl w R v2 (n - (1 + k + z)) (fun i => L (1 + k + z + i))
        rw [show n - (1 + k + z) = n - 1 - (k + z) from by omega, show (fun i => L (1 + k + z + i)) = (fun i => L (1 + (k + z + i))) from funext fun i => by congr 1; omega]; exact h2
    obtain ⟨x1, c1, rfl, hc1, hr1⟩ := h1
    obtain ⟨x2, c2, rfl, hc2, hr2⟩ := h2
    clear e tn hz hr1 hr2
    go_wp2
    refine bodyPost_ret (results_tmp4 rfl _ _ _) rfl ?_
    exact ⟨FIN.out, _, rfl⟩

set_option maxRecDepth 100000 in
set_option maxHeartbeats 1000000 in
theorem split_longL (x : Addr) (n c k : Nat) (L : Nat → Nat) (hL : ∀ i, L i < 256) (w : World) (R : Nat) (hE : Errs w R) (hb : BR w R (some x) n L) (hc : n ≤ c) (hn : n ≤ 4194304) (hp : 0 < n) (h0 : L 0 = 247 + k) (hk : 1 ≤ k) (hk8 : k ≤ 8) :
    Calls Tryf.prog 36 #[.slice (some x) n c] w fun e w' => SplitOut w R n L (longH n L true k) e ∧ ∃ k, w' = w.drewN k := by
  obtain ⟨b, o, hx, hbR, hcl⟩ := hb.at hp
  cases hx
  have c0 : w.cell? ⟨b, o, none⟩ = some (.int .u8 (247 + (k : Int))) := by
    have := hcl 0 hp
    rw [h0] at this
    simpa using this
  obtain ⟨y, hy, hr⟩ := hb.drop' hc 1
  rw [add_lit] at hy
  have hq2 : (1 : Int) ≤ n := by omega
  have HR : Hid (BR w R (some y) (n - 1) (fun i => L (1 + i))) := hr
  have HL : Hid (∀ i, L i < 256) := hL
  clear h0 hr hcl hL
  by_cases t1 : n < 1 + k
  · have e : longH n L true k = ⟨true, 0, 0, false, false⟩ := by unfold longH; rw [if_pos t1]
    rw [e]
    clear e
    go_enter Tryf.func36, Tryf.ntmps36
    go_wp2_with fail
    rw [show (247 + (k : Int) - 192 - 55) = (k : Int) from by omega]
    refine (splitLong_short y (n - 1) (c - 1) k w R hE (by omega)).mono ?_
    rintro e w' ⟨⟨v, rfl, a, m, rfl, ha, hcs⟩, q, rfl⟩
    go_wp2
    refine bodyPost_ret (results_tmp4 rfl _ _ _) rfl ?_
    exact ⟨SplitOut.no rfl rfl ⟨a, m, rfl, ha, hcs⟩ rfl, _, rfl⟩
  rw [if_neg (by omega)] at hy
  cases hy
  by_cases t2 : L 1 = 0
  · have e : longH n L true k = ⟨true, 0, 0, false, false⟩ := by unfold longH; rw [if_neg t1, if_pos t2]
    rw [e]
    have HT2 : Hid (L 1 = 0) := t2
    clear e t2
    go_enter Tryf.func36, Tryf.ntmps36
    go_wp2_with fail
    rw [show (247 + (k : Int) - 192 - 55) = (k : Int) from by omega]
    refine (splitLong_zero ⟨b, o + 1, none⟩ (n - 1) (c - 1) k (fun i => L (1 + i)) w R hE HR.out hk (by omega) HT2.out).mono ?_
    rintro e w' ⟨⟨v, rfl, a, m, rfl, ha, hcs⟩, q, rfl⟩
    go_wp2
    refine bodyPost_ret (results_tmp4 rfl _ _ _) rfl ?_
    exact ⟨SplitOut.no rfl rfl ⟨a, m, rfl, ha, hcs⟩ rfl, _, rfl⟩
  go_enter Tryf.func36, Tryf.ntmps36
  go_wp2_with fail
  rw [show (247 + (k : Int) - 192 - 55) = (k : Int) from by omega]
  refine (splitLong_rest ⟨b, o + 1, none⟩ (n - 1) (c - 1) k (fun i => L (1 + i)) (fun i => HL.out _) w R hE HR.out (by omega) (by omega) hk hk8 (by omega) t2).mono ?_
  have en : num (fun i => L (1 + i)) 0 k = num L 1 k := num_shift L 1 0 k
  rw [en]
  clear en
  rintro e w' ⟨⟨tn, v, rfl, a, m, rfl, ha, hcs⟩ | ⟨tn, v1, v2, rfl, h1, h2⟩, q, rfl⟩
  · have e : longH n L true k = ⟨true, 0, 0, false, false⟩ := by unfold longH; rw [if_neg t1, if_neg t2, if_pos (by omega)]
    have FIN : Hid (SplitOut w R n L (longH n L true k) (.returned (.tuple #[.int .i64 1, .slice none 0 0, .slice none 0 0, .iface 66 (.pointer (some a))]))) := by
      rw [e]; exact SplitOut.no rfl rfl ⟨a, m, rfl, ha, hcs⟩ rfl
    clear e tn
    go_wp2
    refine bodyPost_ret (results_tmp4 rfl _ _ _) rfl ?_
    exact ⟨FIN.out, _, rfl⟩
  · obtain ⟨z, hz⟩ : ∃ z, z = num L 1 k := ⟨_, rfl⟩
    rw [← hz] at tn h1 h2
    have e : longH n L true k = ⟨true, 1 + k, 1 + k + z, true, true⟩ := by unfold longH; rw [if_neg t1, if_neg t2, if_neg (by omega), ← hz]
    have FIN : Hid (SplitOut w R n L (longH n L true k) (.returned (.tuple #[.int .i64 1, v1, v2, .nilIface]))) := by
      rw [e]
      refine SplitOut.yes rfl ?_ ?_ rfl
      · show Sl w R v1 (1 + k + z - (1 + k)) (fun i => L (1 + k + i))
        rw [show 1 + k + z - (1 + k) = z from by omega, show (fun i => L (1 + k + i)) = (fun i => L (1 + (k + i))) from funext fun i => by rw [Nat.add_assoc]]; exact h1
      · show Sl w R v2 (n - (1 + k + z)) (fun i => L (1 + k + z + i))
        rw [show n - (1 + k + z) = n - 1 - (k + z) from by omega, show (fun i => L (1 + k + z + i)) = (fun i => L (1 + (k + z + i))) from funext fun i => by congr 1; omega]; exact h2
    obtain ⟨x1, c1, rfl, hc1, hr1⟩ := h1
    obtain ⟨x2, c2, rfl, hc2, hr2⟩ := h2
    clear e tn hz hr1 hr2
    go_wp2
    refine bodyPost_ret (results_tmp4 rfl _ _ _) rfl ?_
    exact ⟨FIN.out, _, rfl⟩

/-- Split, whatever the bytes. -/
theorem split_any (a : Option Addr) (n c : Nat) (L : Nat → Nat) (hL : ∀ i, L i < 256) (w : World) (R : Nat) (hE : Errs w R) (hb : BR w R a n L) (hc : n ≤ c) (hn : n ≤ 4194304) :
    Calls Tryf.prog 36 #[.slice a n c] w fun e w' => SplitOut w R n L (headH n L) e ∧ ∃ k, w' = w.drewN k := by
  by_cases hp : n = 0
  · subst hp
    exact split_empty a c L w R hE
  · cases a with
    | none => exact absurd (hb.1 rfl) hp
    | some x =>
      unfold headH
      rw [if_neg hp]
      split
      · exact split_one x n c L w R hb hc (by omega) ‹_›
      split
      · exact split_short x n c (L 0 - 128) L w R hE hb hc hn (by omega) (by omega) (by omega)
      split
      · exact split_long x n c (L 0 - 183) L hL w R hE hb hc hn (by omega) (by omega) (by omega) (by omega)
      split
      · exact split_shortL x n c (L 0 - 192) L w R hE hb hc hn (by omega) (by omega) (by omega)
      · have := hL 0
        exact split_longL x n c (L 0 - 247) L hL w R hE hb hc hn (by omega) (by omega) (by omega) (by omega)
end Go.Proofs.Qxb6604339aFmt
