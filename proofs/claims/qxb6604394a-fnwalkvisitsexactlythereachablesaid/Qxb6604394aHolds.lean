/- Object.holds: function 30. -/
import Derived.Test.Qxb6604394aPush
namespace Go.Proofs.Qxb6604394a
open Go.RowKit

def pshs (p : List Nat × List Nat) (vs : List Nat) : List Nat × List Nat := vs.foldl psh p
theorem pshs_snoc (p : List Nat × List Nat) (vs : List Nat) (v : Nat) : pshs p (vs ++ [v]) = psh (pshs p vs) v := by simp [pshs]
theorem pshs_append (p : List Nat × List Nat) (vs us : List Nat) : pshs p (vs ++ us) = pshs (pshs p vs) us := by simp [pshs]
def lst (P : Nat → Nat) (n : Nat) : List Nat := (List.range n).map P
theorem lst_succ (P : Nat → Nat) (n : Nat) : lst P (n + 1) = lst P n ++ [P n] := by simp [lst, List.range_succ]
theorem lst_zero (P : Nat → Nat) : lst P 0 = [] := rfl
theorem mem_lst {P : Nat → Nat} {n v : Nat} : v ∈ lst P n ↔ ∃ i, i < n ∧ P i = v := by simp [lst]

structure Good (n : Nat) (p : List Nat × List Nat) : Prop where
  nodup : p.1.Nodup
  rng : ∀ v ∈ p.1, 1 ≤ v ∧ v ≤ n
  le : p.2.length ≤ p.1.length
theorem nodup_le {n : Nat} {l : List Nat} (h : l.Nodup) (hr : ∀ v ∈ l, 1 ≤ v ∧ v ≤ n) : l.length ≤ n := by
  induction n generalizing l with
  | zero =>
    cases l with
    | nil => simp
    | cons a l => have := hr a (by simp); omega
  | succ n ih =>
    have h2 := ih (l := l.erase (n + 1)) (h.erase _) (fun v hv => by
      have hm := hr v (List.mem_of_mem_erase hv)
      have hne : v ≠ n + 1 := fun e => by subst e; exact h.not_mem_erase hv
      omega)
    rw [List.length_erase] at h2
    split at h2 <;> omega
theorem Good.len {n : Nat} {p : List Nat × List Nat} (h : Good n p) : p.1.length ≤ n := nodup_le h.nodup h.rng
def Ok (n v : Nat) : Prop := v = 0 ∨ v = 4294967295 ∨ v ≤ n
theorem Good.add {n v : Nat} {p : List Nat × List Nat} (h : Good n p) (hv : Ok n v) : Good n (psh p v) := by
  unfold psh
  split
  · exact h
  · rename_i hh
    have h0 : v ≠ 0 := fun e => hh (.inl e)
    have hT : v ≠ 4294967295 := fun e => hh (.inr (.inl e))
    have hm : v ∉ p.1 := fun e => hh (.inr (.inr e))
    unfold Ok at hv
    refine ⟨?_, fun u hu => ?_, by simpa using h.le⟩
    · rw [List.nodup_append]
      exact ⟨h.nodup, by simp, fun a ha b hb e => by simp at hb; subst hb; subst e; exact hm ha⟩
    · simp at hu
      rcases hu with hu | rfl
      · exact h.rng u hu
      · omega
theorem Good.adds {n : Nat} {vs : List Nat} : ∀ {p : List Nat × List Nat}, Good n p → (∀ v ∈ vs, Ok n v) → Good n (pshs p vs) := by
  induction vs with
  | nil => exact fun h _ => h
  | cons v vs ih => exact fun h hv => ih (h.add (hv v (by simp))) (fun u hu => hv u (by simp [hu]))

/-- Rows that lie below B. -/
def BRow (w : World) (B : Nat) (a : Option Addr) (n : Nat) (Z : Nat → Nat) : Prop :=
  (a = none → n = 0) ∧ ∀ x, a = some x → ∀ i, i < n → w.cell? (x.add i) = some (.int .u32 (Z i : Nat)) ∧ x.block < B
/-- A []Sent below B, of which Val alone is not zero. -/
def SRow (w : World) (B : Nat) (a : Option Addr) (n : Nat) (Z : Nat → Nat) : Prop :=
  (a = none → n = 0) ∧ ∀ x, a = some x → ∀ i, i < n → w.cell? (x.add (i * 4)) = some (.int .u32 (Z i : Nat)) ∧ w.cell? (x.add (i * 4 + 1)) = some (.int .i64 0) ∧ w.cell? (x.add (i * 4 + 2)) = some (.int .i64 0) ∧ w.cell? (x.add (i * 4 + 3)) = some (.bool false) ∧ x.block < B
structure Lo (B R sb op : Nat) : Prop where
  h1 : B ≤ R
  h2 : B ≤ sb
  h3 : B ≤ op
theorem add_block (x : Addr) (l : Nat) : (x.add l).block = x.block := by unfold Addr.add; split <;> rfl
theorem Tr.lo {T : List TypeId} {B R sb op : Nat} {w w' : World} (t : Tr T R sb op w w') (l : Lo B R sb op) {p : Addr} {v : Value} (h : w.cell? p = some v) (hp : p.block < B) : w'.cell? p = some v := by
  have h1 := l.h1
  have h2 := l.h2
  have h3 := l.h3
  exact t.cell h (by omega) (by omega) (by omega)
theorem BRow.tr {T : List TypeId} {B R sb op : Nat} {w w' : World} {a : Option Addr} {n : Nat} {Z : Nat → Nat} (h : BRow w B a n Z) (t : Tr T R sb op w w') (l : Lo B R sb op) : BRow w' B a n Z :=
  ⟨h.1, fun x hx i hi => ⟨t.lo l (h.2 x hx i hi).1 (by rw [add_block]; exact (h.2 x hx i hi).2), (h.2 x hx i hi).2⟩⟩
theorem SRow.tr {T : List TypeId} {B R sb op : Nat} {w w' : World} {a : Option Addr} {n : Nat} {Z : Nat → Nat} (h : SRow w B a n Z) (t : Tr T R sb op w w') (l : Lo B R sb op) : SRow w' B a n Z :=
  ⟨h.1, fun x hx i hi => by
    obtain ⟨a1, a2, a3, a4, a5⟩ := h.2 x hx i hi
    exact ⟨t.lo l a1 (by rw [add_block]; exact a5), t.lo l a2 (by rw [add_block]; exact a5), t.lo l a3 (by rw [add_block]; exact a5), t.lo l a4 (by rw [add_block]; exact a5), a5⟩⟩
theorem BRow.at {w : World} {B : Nat} {a : Option Addr} {n : Nat} {Z : Nat → Nat} (h : BRow w B a n Z) (hn : 0 < n) :
    ∃ b o, a = some ⟨b, o, none⟩ ∧ b < B ∧ ∀ i, i < n → w.cell? ⟨b, o + i, none⟩ = some (.int .u32 (Z i : Nat)) := by
  cases a with
  | none => have := h.1 rfl; omega
  | some x =>
    have h0 := (h.2 x rfl 0 hn).1
    obtain ⟨b, o, rfl⟩ := addr_plain (x := x) (by simpa [Addr.add] using h0)
    exact ⟨b, o, rfl, (h.2 _ rfl 0 hn).2, fun i hi => by rw [← add_lit]; exact (h.2 _ rfl i hi).1⟩
theorem SRow.at {w : World} {B : Nat} {a : Option Addr} {n : Nat} {Z : Nat → Nat} (h : SRow w B a n Z) (hn : 0 < n) :
    ∃ b o, a = some ⟨b, o, none⟩ ∧ b < B ∧ ∀ i, i < n → w.cell? ⟨b, o + i * 4, none⟩ = some (.int .u32 (Z i : Nat)) ∧ w.cell? ⟨b, o + i * 4 + 1, none⟩ = some (.int .i64 0) ∧ w.cell? ⟨b, o + i * 4 + 2, none⟩ = some (.int .i64 0) ∧ w.cell? ⟨b, o + i * 4 + 3, none⟩ = some (.bool false) := by
  cases a with
  | none => have := h.1 rfl; omega
  | some x =>
    have h0 := (h.2 x rfl 0 hn).1
    obtain ⟨b, o, rfl⟩ := addr_plain (x := x) (by simpa [Addr.add] using h0)
    refine ⟨b, o, rfl, (h.2 _ rfl 0 hn).2.2.2.2, fun i hi => ?_⟩
    obtain ⟨a1, a2, a3, a4, _⟩ := h.2 _ rfl i hi
    rw [add_lit] at a1 a2 a3 a4
    rw [← Nat.add_assoc] at a2 a3 a4
    exact ⟨a1, a2, a3, a4⟩

theorem Tr.ofBelow {T : List TypeId} {R sb op : Nat} {w w' : World} (h : Below w.heap.size w w') : Tr T R sb op w w' :=
  ⟨h.os, h.tape, h.output, h.size, fun k o h1 _ _ _ => by rw [h.block k (lt_of_block h1)]; exact h1⟩
theorem PS.below {w w' : World} {R fp sp sb op kp n : Nat} {ord stk : List Nat} (h : PS w R fp sp sb op kp n ord stk) (hb : Below w.heap.size w w') : PS w' R fp sp sb op kp n ord stk := by
  have e : ∀ {k o}, w.heap[k]? = some o → w'.heap[k]? = some o := fun h1 => by rw [hb.block _ (lt_of_block h1)]; exact h1
  have ow : ∀ {t v m xs}, w.ownsRow R t 1 v m xs → w'.ownsRow R t 1 v m xs := fun ho => by
    refine ⟨ho.1, ?_⟩
    rcases ho.2 with hn | ⟨g, cap, cur, rfl, hb, hg, rest⟩
    · exact .inl hn
    · exact .inr ⟨g, cap, cur, rfl, hb, e hg, rest⟩
  obtain ⟨v, h1, h2⟩ := h.seen.ho
  obtain ⟨u, h3, h4⟩ := h.hk
  obtain ⟨c, hc, r⟩ := h.seen.hb
  exact ⟨⟨h.seen.l1, h.seen.l2, h.seen.l3, e h.seen.hs, ⟨c, e hc, r⟩, ⟨v, e h1, ow h2⟩, Nat.le_trans h.seen.hR hb.size⟩, h.g1, h.g2, e h.hf, ⟨u, e h3, ow h4⟩⟩

set_option maxRecDepth 100000 in
set_option maxHeartbeats 1000000 in
theorem holds_any (w : World) (B R fp sp sb op kp n ob oo V pl pc bl bc : Nat) (pa ba : Option Addr) (PZ BZ : Nat → Nat) (ord stk : List Nat) (h : PS w R fp sp sb op kp n ord stk) (hg : Good n (ord, stk)) (lo : Lo B R sb op) (hn : n ≤ 1048576)
    (hob : ob < B) (hV : Ok n V) (hP : ∀ i, i < pl → Ok n (PZ i)) (hZ : ∀ i, i < bl → Ok n (BZ i)) (hpl : pl ≤ 1048576) (hbl : bl ≤ 1048576)
    (c2 : w.cell? ⟨ob, oo + 2, none⟩ = some (.int .u32 (V : Nat))) (c6 : w.cell? ⟨ob, oo + 6, none⟩ = some (.slice ba bl bc)) (c7 : w.cell? ⟨ob, oo + 7, none⟩ = some (.slice pa pl pc))
    (rp : BRow w B pa pl PZ) (rb : SRow w B ba bl BZ) :
    Calls Try.prog 30 #[.pointer (some ⟨ob, oo, none⟩), .func (.func 29) #[] #[.pointer (some ⟨fp, 0, none⟩), .pointer (some ⟨kp, 0, none⟩)]] w fun e w' => e = .returned (.tuple #[]) ∧
      PS w' R fp sp sb op kp n (pshs (ord, stk) (V :: lst PZ pl ++ lst BZ bl)).1 (pshs (ord, stk) (V :: lst PZ pl ++ lst BZ bl)).2 ∧ Tr [36, 51, 55] R sb op w w' := by
  have LO : Hid (Lo B R sb op) := lo
  have HV : Hid (Ok n V) := hV
  have HP : Hid (∀ i, i < pl → Ok n (PZ i)) := hP
  have HZ : Hid (∀ i, i < bl → Ok n (BZ i)) := hZ
  have HG : Hid (Good n (ord, stk)) := hg
  have hl1 := hg.len
  have hl2 := hg.le
  simp only at hl1 hl2
  clear hV hP hZ lo hg
  go_enter Try.func30, Try.ntmps30
  go_wp2_with fail
  refine (push_any w R fp sp sb op kp n V ord stk h HV.out hn (by omega) (by omega)).mono ?_
  rintro e w1 ⟨rfl, ps1, t1⟩
  have d6 := t1.lo LO.out c6 hob
  have d7 := t1.lo LO.out c7 hob
  have rp1 := rp.tr t1 LO.out
  have PS1 : Hid (PS w1 R fp sp sb op kp n (pshs (ord, stk) (V :: lst PZ 0)).1 (pshs (ord, stk) (V :: lst PZ 0)).2) := ps1
  have HR : Hid (SRow w B ba bl BZ) := rb
  clear ps1 h rp rb c2 c6 c7
  go_wp2
  go_loopw [19] (fun i wr => ∃ j : Nat, j ≤ pl ∧ i = .int .i64 j ∧ PS wr R fp sp sb op kp n (pshs (ord, stk) (V :: lst PZ j)).1 (pshs (ord, stk) (V :: lst PZ j)).2 ∧ Tr [36, 51, 55] R sb op w1 wr) (fun i _ => pl - (intOf i).toNat)
  case atStart => exact ⟨0, by omega, rfl, PS1.out, Tr.refl _ _ _ _ _⟩
  case round =>
    obtain ⟨j, hj, rfl, ps, tr⟩ := hrel
    by_cases hlt : j < pl
    · obtain ⟨b, o, hpa, hbB, hc⟩ := (rp1.tr tr LO.out).at (by omega)
      cases hpa
      have cj := hc j hlt
      have hG := HG.out.adds (vs := V :: lst PZ j) (fun v hv => by
        simp at hv
        rcases hv with rfl | hv
        · exact HV.out
        · obtain ⟨i, hi, rfl⟩ := mem_lst.1 hv; exact HP.out i (by omega))
      have m1 := hG.len
      have m2 := hG.le
      clear hc hG
      go_wp2_with fail
      refine (push_any wr R fp sp sb op kp n (PZ j) _ _ ps (HP.out j hlt) hn (by omega) (by omega)).mono ?_
      rintro e w2 ⟨rfl, ps2, t2⟩
      have PS2 : Hid (PS w2 R fp sp sb op kp n (pshs (ord, stk) (V :: lst PZ (j + 1))).1 (pshs (ord, stk) (V :: lst PZ (j + 1))).2) := by
        rw [lst_succ, ← List.cons_append, pshs_snoc]; exact ps2
      clear ps2 ps m1 m2
      go_wp2
      go_roundw
      case rel => exact ⟨j + 1, by omega, by go_num, PS2.out, tr.trans t2⟩
      case measure => simp [intOf]; omega
    · obtain rfl : pl = j := by omega
      have d8 := tr.lo LO.out d6 hob
      have PS2 : Hid (PS wr R fp sp sb op kp n (pshs (ord, stk) (V :: lst PZ pl ++ lst BZ 0)).1 (pshs (ord, stk) (V :: lst PZ pl ++ lst BZ 0)).2) := by rw [lst_zero, List.append_nil]; exact ps
      have rb2 := (HR.out.tr t1 LO.out).tr tr LO.out
      clear ps
      go_wp2
      go_loopw [32] (fun i wq => ∃ j : Nat, j ≤ bl ∧ i = .int .i64 j ∧ PS wq R fp sp sb op kp n (pshs (ord, stk) (V :: lst PZ pl ++ lst BZ j)).1 (pshs (ord, stk) (V :: lst PZ pl ++ lst BZ j)).2 ∧ Tr [36, 51, 55] R sb op wr wq) (fun i _ => bl - (intOf i).toNat)
      case atStart => exact ⟨0, by omega, rfl, PS2.out, Tr.refl _ _ _ _ _⟩
      case round =>
        obtain ⟨j, hj, rfl, ps, tq⟩ := hrel
        by_cases hlt : j < bl
        · obtain ⟨b, o, hpa, hbB, hc⟩ := (rb2.tr tq LO.out).at (by omega)
          cases hpa
          obtain ⟨a1, a2, a3, a4⟩ := hc j hlt
          clear hc
          go_wp2_with fail
          have hG := HG.out.adds (vs := V :: lst PZ pl ++ lst BZ j) (fun v hv => by
            simp at hv
            rcases hv with rfl | hv | hv
            · exact HV.out
            · obtain ⟨i, hi, rfl⟩ := mem_lst.1 hv; exact HP.out i (by omega)
            · obtain ⟨i, hi, rfl⟩ := mem_lst.1 hv; exact HZ.out i (by omega))
          have m1 := hG.len
          have m2 := hG.le
          have hba : Below wr.heap.size wr (wr.alloc (.cells #[.int .u32 (BZ j : Nat), .int .i64 0, .int .i64 0, .bool false] 61)) := (Below.refl _ _).alloc (Nat.le_refl _) _
          refine (push_any _ R fp sp sb op kp n (BZ j) _ _ (ps.below hba) (HZ.out j hlt) hn (by omega) (by omega)).mono ?_
          rintro e w2 ⟨rfl, ps2, t2⟩
          have PS3 : Hid (PS w2 R fp sp sb op kp n (pshs (ord, stk) (V :: lst PZ pl ++ lst BZ (j + 1))).1 (pshs (ord, stk) (V :: lst PZ pl ++ lst BZ (j + 1))).2) := by
            rw [lst_succ, ← List.append_assoc, pshs_snoc]; exact ps2
          clear ps2 ps m1 m2 hG
          go_wp2
          go_roundw
          case rel => exact ⟨j + 1, by omega, by go_num, PS3.out, (tq.trans (Tr.ofBelow hba)).trans t2⟩
          case measure => simp [intOf]; omega
        · obtain rfl : bl = j := by omega
          go_wp2
          go_end0
          exact ⟨rfl, ps, (t1.trans tr).trans tq⟩
end Go.Proofs.Qxb6604394a
