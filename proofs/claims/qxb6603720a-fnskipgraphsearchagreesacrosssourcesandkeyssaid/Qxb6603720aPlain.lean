/- THE PLAIN LAW: no Go in sight: strings in order, the layer's invariants, what a search does. -/
import GoSem.Op.String
namespace Go.Proofs.Qxb6603720a

theorem bl_irrefl (x : List UInt8) : Op.bytesLess x x = false := by
  induction x with
  | nil => rfl
  | cons a x ih => simp [Op.bytesLess, ih]
theorem bl_trans : ∀ x y z : List UInt8, Op.bytesLess x y = true → Op.bytesLess y z = true → Op.bytesLess x z = true
  | _, [], _ => by simp [Op.bytesLess]
  | _, _ :: _, [] => by simp [Op.bytesLess]
  | [], _ :: _, _ :: _ => by simp [Op.bytesLess]
  | a :: x, b :: y, c :: z => by
    intro h1 h2
    simp only [Op.bytesLess, Bool.or_eq_true, decide_eq_true_eq, Bool.and_eq_true, beq_iff_eq] at h1 h2 ⊢
    simp only [UInt8.lt_iff_toNat_lt] at h1 h2 ⊢
    rcases h1 with h1 | ⟨e1, h1⟩
    · rcases h2 with h2 | ⟨e2, h2⟩
      · left; omega
      · subst e2; left; exact h1
    · subst e1
      rcases h2 with h2 | ⟨e2, h2⟩
      · left; exact h2
      · exact .inr ⟨e2, bl_trans x y z h1 h2⟩
theorem bl_total : ∀ x y : List UInt8, Op.bytesLess x y = false → Op.bytesLess y x = false → x = y
  | [], [] => by simp
  | [], _ :: _ => by simp [Op.bytesLess]
  | _ :: _, [] => by simp [Op.bytesLess]
  | a :: x, b :: y => by
    intro h1 h2
    simp only [Op.bytesLess, Bool.or_eq_false_iff, decide_eq_false_iff_not, Bool.and_eq_false_imp, beq_iff_eq] at h1 h2
    simp only [UInt8.lt_iff_toNat_lt] at h1 h2
    have e : a = b := UInt8.toNat_inj.1 (by omega)
    subst e
    rw [bl_total x y (h1.2 rfl) (h2.2 rfl)]

/-- Go's '<=' on strings. -/
def leS (x y : ByteArray) : Bool := Op.bytesLess x.toList y.toList || x.toList == y.toList
theorem leS_eq (x y : ByteArray) : leS x y = !Op.bytesLess y.toList x.toList := by
  unfold leS
  cases h : Op.bytesLess y.toList x.toList
  · cases h2 : Op.bytesLess x.toList y.toList
    · simp [bl_total _ _ h2 h]
    · simp
  · cases h2 : Op.bytesLess x.toList y.toList
    · have : ¬ x.toList = y.toList := fun e => by rw [e, bl_irrefl] at h; cases h
      simpa using this
    · have := bl_trans _ _ _ h h2
      rw [bl_irrefl] at this; cases this
theorem leS_refl (x : ByteArray) : leS x x = true := by rw [leS_eq, bl_irrefl]; rfl
theorem leS_trans {x y z : ByteArray} (h1 : leS x y = true) (h2 : leS y z = true) : leS x z = true := by
  rw [leS_eq] at *
  simp only [Bool.not_eq_eq_eq_not, Bool.not_true] at *
  cases h : Op.bytesLess z.toList x.toList
  · rfl
  · cases h3 : Op.bytesLess x.toList y.toList
    · have e := bl_total _ _ h3 h1
      rw [e, h2] at h; cases h
    · have := bl_trans _ _ _ h h3
      rw [h2] at this; cases this

/-- h is the last node whose start is at or before the key. -/
def Hold (n : Nat) (S : Nat → ByteArray) (key : ByteArray) (h : Nat) : Prop := h < n ∧ ∀ x, x < n → (leS (S x) key = true ↔ x ≤ h)

theorem mono_le {n : Nat} {S : Nat → ByteArray} (mono : ∀ i, i + 1 < n → leS (S i) (S (i + 1)) = true) (i : Nat) : ∀ d, i + d < n → leS (S i) (S (i + d)) = true
  | 0, _ => leS_refl _
  | d + 1, h => leS_trans (mono_le mono i d (by omega)) (mono (i + d) (by omega))
theorem hold_ex {n : Nat} {S : Nat → ByteArray} (key : ByteArray) (pos : 0 < n) (h0 : (S 0).toList = []) (mono : ∀ i, i + 1 < n → leS (S i) (S (i + 1)) = true) : ∃ h, Hold n S key h := by
  have f0 : leS (S 0) key = true := by rw [leS_eq, h0]; cases key.toList <;> rfl
  have key1 : ∀ m, 0 < m → m ≤ n → ∃ h, h < m ∧ ∀ x, x < m → (leS (S x) key = true ↔ x ≤ h) := by
    intro m
    induction m with
    | zero => intro h; omega
    | succ m ih =>
      intro _ hm
      by_cases hm0 : m = 0
      · subst hm0
        refine ⟨0, by omega, fun x hx => ?_⟩
        obtain rfl : x = 0 := by omega
        simp [f0]
      obtain ⟨h, hh, hx⟩ := ih (by omega) (by omega)
      by_cases hc : leS (S m) key = true
      · refine ⟨m, by omega, fun x hx' => ?_⟩
        constructor
        · intro _; omega
        · intro _
          have := mono_le mono x (m - x) (by omega)
          rw [show x + (m - x) = m from by omega] at this
          exact leS_trans this hc
      · refine ⟨h, by omega, fun x hx' => ?_⟩
        by_cases e : x = m
        · subst e
          constructor
          · intro h'; exact absurd h' hc
          · intro h'; omega
        · exact hx x (by omega)
  exact key1 n pos (Nat.le_refl _)

/-- A link of depth d leads to a node that holds a band of that depth. -/
def Lk (n : Nat) (B : Nat → Int) (d : Nat) (p : Int) : Prop := 0 ≤ p ∧ p < n ∧ (d : Int) < B (p.toNat + 1) - B p.toNat

/-- The layer's invariants. -/
structure WF (n nb : Nat) (S : Nat → ByteArray) (B P Q : Nat → Int) : Prop where
  pos : 0 < n
  first : (S 0).toList = []
  mono : ∀ i, i + 1 < n → leS (S i) (S (i + 1)) = true
  b0 : B 0 = 0
  bmono : ∀ i, i < n → B i ≤ B (i + 1)
  bn : B n = nb
  link : ∀ x, x < n → ∀ d : Nat, (d : Int) < B (x + 1) - B x → Lk n B d (P (B x + d).toNat) ∧ Lk n B d (Q (B x + d).toNat)
  ring : 2 ≤ n → ∀ x, x < n → 1 ≤ B (x + 1) - B x ∧ Q (B x).toNat = ((x : Int) + 1) % n ∧ P (B x).toNat = ((x : Int) + n - 1) % n

theorem b_le {n : Nat} {B : Nat → Int} (bmono : ∀ i, i < n → B i ≤ B (i + 1)) (i : Nat) : ∀ d, i + d ≤ n → B i ≤ B (i + d)
  | 0, _ => Int.le_refl _
  | d + 1, h => Int.le_trans (b_le bmono i d (by omega)) (bmono (i + d) (by omega))
theorem b_bd {n : Nat} {nb : Int} {B : Nat → Int} (b0 : B 0 = 0) (bmono : ∀ i, i < n → B i ≤ B (i + 1)) (bn : B n = nb) (i : Nat) (hi : i ≤ n) : 0 ≤ B i ∧ B i ≤ nb := by
  have h1 := b_le bmono 0 i (by omega)
  have h2 := b_le bmono i (n - i) (by omega)
  rw [show i + (n - i) = n from by omega] at h2
  rw [Nat.zero_add] at h1
  omega

def dist (a b : Nat) : Nat := (a - b) + (b - a)

/-- What holds of a search at every turn. -/
structure Inv (n h src : Nat) (flat : Prop) (a hops : Nat) : Prop where
  lt : a < n
  sum : hops + dist a h ≤ dist src h
  eq : flat → hops + dist a h = dist src h
  zero : hops = 0 → a = src

theorem Inv.start {n h src : Nat} {flat : Prop} (hs : src < n) : Inv n h src flat src 0 := ⟨hs, by omega, fun _ => by omega, fun _ => rfl⟩
theorem Inv.on {n h src : Nat} {flat : Prop} {a hops q : Nat} (i : Inv n h src flat a hops) (h1 : a < q) (h2 : q ≤ h) (hn : q < n) (hf : flat → q = a + 1) : Inv n h src flat q (hops + 1) := by
  obtain ⟨l, s, e, z⟩ := i
  unfold dist at *
  exact ⟨hn, by unfold dist; omega, fun f => by have := e f; have := hf f; unfold dist; omega, by omega⟩
theorem Inv.back {n h src : Nat} {flat : Prop} {a hops p : Nat} (i : Inv n h src flat a hops) (h1 : p < a) (h2 : h ≤ p) (hf : flat → p + 1 = a) : Inv n h src flat p (hops + 1) := by
  obtain ⟨l, s, e, z⟩ := i
  unfold dist at *
  exact ⟨by omega, by unfold dist; omega, fun f => by have := e f; have := hf f; unfold dist; omega, by omega⟩

/-- Every node has its level-0 band alone. -/
def Flat (n : Nat) (B : Nat → Int) : Prop := ∀ x, x < n → B (x + 1) - B x ≤ 1

section
variable {n nb : Nat} {S : Nat → ByteArray} {B P Q : Nat → Int}

theorem WF.next_lk (g : WF n nb S B P Q) {a m : Nat} (ha : a < n) (hm : (m : Int) < B (a + 1) - B a) :
    ∃ q : Nat, Q (B a + m).toNat = q ∧ q < n ∧ (m : Int) < B (q + 1) - B q := by
  obtain ⟨h1, h2, h3⟩ := (g.link a ha m hm).2
  exact ⟨(Q (B a + m).toNat).toNat, by omega, by omega, h3⟩
theorem WF.prev_lk (g : WF n nb S B P Q) {a m : Nat} (ha : a < n) (hm : (m : Int) < B (a + 1) - B a) :
    ∃ p : Nat, P (B a + m).toNat = p ∧ p < n ∧ (m : Int) < B (p + 1) - B p := by
  obtain ⟨h1, h2, h3⟩ := (g.link a ha m hm).1
  exact ⟨(P (B a + m).toNat).toNat, by omega, by omega, h3⟩

/-- Round the ring at level 0, onward. -/
theorem WF.next0 (g : WF n nb S B P Q) {a q : Nat} (ha : a + 1 < n) (hq : Q (B a + (0 : Nat)).toNat = q) : q = a + 1 := by
  have := (g.ring (by omega) a (by omega)).2.1
  rw [show B a + ((0 : Nat) : Int) = B a from by omega, this, Int.emod_eq_of_lt (by omega) (by omega)] at hq
  omega
theorem WF.prev0 (g : WF n nb S B P Q) {a p : Nat} (ha : a < n) (h0 : 0 < a) (hp : P (B a + (0 : Nat)).toNat = p) : p + 1 = a := by
  have := (g.ring (by omega) a (by omega)).2.2
  rw [show B a + ((0 : Nat) : Int) = B a from by omega, this, show (a : Int) + n - 1 = (a - 1) + n from by omega, Int.add_emod_right, Int.emod_eq_of_lt (by omega) (by omega)] at hp
  omega

variable {h src : Nat} {key : ByteArray}
/-- The search moves on. -/
theorem move_on (g : WF n nb S B P Q) (hh : Hold n S key h) {a hops m q : Nat} (i : Inv n h src (Flat n B) a hops) (hm : (m : Int) < B (a + 1) - B a) (hq : Q (B a + m).toNat = q) (hqn : q < n)
    (h1 : a < q) (h2 : leS (S q) key = true) : Inv n h src (Flat n B) q (hops + 1) :=
  i.on h1 ((hh.2 q hqn).1 h2) hqn fun f => by
    have := f a i.lt
    obtain rfl : m = 0 := by omega
    exact g.next0 (by omega) hq
theorem stop_on (g : WF n nb S B P Q) (hh : Hold n S key h) {a q : Nat} (ha : a < n) (hq : Q (B a + (0 : Nat)).toNat = q)
    (h1 : ¬ (a < q ∧ leS (S q) key = true)) : h ≤ a := by
  by_cases hl : a + 1 < n
  · obtain rfl := g.next0 hl hq
    rw [hh.2 _ hl] at h1
    omega
  · have := hh.1; omega
theorem move_back (g : WF n nb S B P Q) (hh : Hold n S key h) {a hops m p : Nat} (i : Inv n h src (Flat n B) a hops) (hm : (m : Int) < B (a + 1) - B a) (hp : P (B a + m).toNat = p)
    (h1 : p < a) (h2 : leS (S (p + 1)) key = false) : Inv n h src (Flat n B) p (hops + 1) := by
  have hlt := i.lt
  refine i.back h1 ?_ fun f => ?_
  · have := (hh.2 (p + 1) (by omega))
    rw [h2] at this
    simp at this
    omega
  · have := f a i.lt
    obtain rfl : m = 0 := by omega
    exact g.prev0 i.lt (by omega) hp
theorem stop_back (g : WF n nb S B P Q) (hh : Hold n S key h) {a p : Nat} (ha : a < n) (hp : P (B a + (0 : Nat)).toNat = p) (hle : h ≤ a)
    (h1 : ¬ (p < a ∧ leS (S (p + 1)) key = false)) : a = h := by
  by_cases h0 : 0 < a
  · obtain rfl := g.prev0 ha h0 hp
    have := hh.2 (p + 1) ha
    cases hc : leS (S (p + 1)) key
    · exact absurd ⟨by omega, hc⟩ h1
    · have := this.1 hc; omega
  · omega
/-- No band at all: the one node. -/
theorem no_band (g : WF n nb S B P Q) (hh : Hold n S key h) {a : Nat} (ha : a < n) (hb : B (a + 1) - B a ≤ 0) : a = h := by
  by_cases h2 : 2 ≤ n
  · have := (g.ring h2 a ha).1; omega
  · have := hh.1; omega
theorem WF.bd (g : WF n nb S B P Q) (i : Nat) (hi : i ≤ n) : 0 ≤ B i ∧ B i ≤ nb := b_bd g.b0 g.bmono g.bn i hi
/-- A band's place. -/
theorem WF.place (g : WF n nb S B P Q) {a m : Nat} (ha : a < n) (hm : (m : Int) < B (a + 1) - B a) : 0 ≤ B a + m ∧ B a + m < nb := by
  have h1 := g.bd a (by omega)
  have h2 := g.bd (a + 1) (by omega)
  omega
end
end Go.Proofs.Qxb6603720a
