import Derived.Test.Qxb6604053aRoll
import Derived.Test.Qxb6604053aFloat
namespace Go.Proofs.Qxb6604053a
open Go.RowKit

/-- The same float, or two NaNs. -/
def FSim (x y : Nat) : Prop := x = y ∨ NaN x ∧ NaN y
theorem FAdd.sim {a a' b c c' : Nat} (h : FSim a a') (h1 : FAdd a b c) (h2 : FAdd a' b c') : FSim c c' := by
  have nd : ∀ z, isNaN z → NaN z := fun z hz => by obtain ⟨t, rfl⟩ := hz; exact nan_drawn t
  rcases h with rfl | ⟨na, na'⟩
  · rcases h1 with h1 | ⟨h1, n1⟩
    · rcases h2 with h2 | ⟨h2, _⟩
      · rw [h1] at h2; cases h2; exact .inl rfl
      · rw [h1] at h2; cases h2
    · rcases h2 with h2 | ⟨_, n2⟩
      · rw [h1] at h2; cases h2
      · exact .inr ⟨nd _ n1, nd _ n2⟩
  · rcases h1 with h1 | ⟨_, n1⟩
    · rw [nan_add na] at h1; cases h1
    · rcases h2 with h2 | ⟨_, n2⟩
      · rw [nan_add na'] at h2; cases h2
      · exact .inr ⟨nd _ n1, nd _ n2⟩
/-- Two records that differ in the bits of a NaN at most. -/
def Same (a b : Rc) : Prop := b = { a with cpu := b.cpu } ∧ FSim a.cpu b.cpu
theorem Same.refl (a : Rc) : Same a a := ⟨rfl, .inl rfl⟩
theorem Same.mrg {a b r : Rc} {c c' : Nat} (h : Same a b) (h1 : FAdd a.cpu r.cpu c) (h2 : FAdd b.cpu r.cpu c') : Same (mrg a r c) (mrg b r c') := by
  obtain ⟨e, hs⟩ := h
  exact ⟨by rw [e]; rfl, FAdd.sim hs h1 h2⟩

/-! ### the law's own reckoning -/
/-- Same job, same command. -/
def sameK (a b : Rc) : Bool := a.job == b.job && a.comm.toList == b.comm.toList
theorem toList_inj {a b : ByteArray} (h : a.toList = b.toList) : a = b := by
  rw [ByteArray.toList_eq, ByteArray.toList_eq] at h
  exact ByteArray.ext (Array.ext' h)
theorem sameK_iff {a b : Rc} : sameK a b = true ↔ a.key = b.key := by
  unfold sameK Rc.key
  rw [Bool.and_eq_true, beq_iff_eq, beq_iff_eq]
  exact ⟨fun ⟨h1, h2⟩ => Key.ext' h1 (toList_inj h2), fun h => by injection h with h1 h2; exact ⟨h1, by rw [h2]⟩⟩
/-- Some grouped record before i has i's key. -/
def hasE (R : Nat → Rc) (i : Nat) : Nat → Bool
  | 0 => false
  | j + 1 => hasE R i j || ((R j).grp && sameK (R j) (R i))
theorem hasE_iff {R : Nat → Rc} {i : Nat} : ∀ n, hasE R i n = true ↔ ∃ j, j < n ∧ (R j).grp = true ∧ (R j).key = (R i).key := by
  intro n
  induction n with
  | zero => exact ⟨fun h => (by cases h), fun ⟨j, hj, _⟩ => (by omega)⟩
  | succ n ih =>
    rw [hasE, Bool.or_eq_true, Bool.and_eq_true, ih, sameK_iff]
    constructor
    · rintro (⟨j, hj, h⟩ | h)
      · exact ⟨j, by omega, h⟩
      · exact ⟨n, by omega, h⟩
    · rintro ⟨j, hj, h⟩
      by_cases e : j = n
      · subst e; exact .inr h
      · exact .inl ⟨j, by omega, h⟩
/-- The records that come out. -/
def head (R : Nat → Rc) (i : Nat) : Bool := !((R i).grp && hasE R i i)
def posN (R : Nat → Rc) : Nat → Nat
  | 0 => 0
  | i + 1 => posN R i + if head R i then 1 else 0
theorem posN_mono (R : Nat → Rc) (i : Nat) : ∀ j, i ≤ j → posN R i ≤ posN R j := by
  intro j
  induction j with
  | zero => intro h; obtain rfl : i = 0 := by omega
            exact Nat.le_refl _
  | succ j ih =>
    intro h
    by_cases e : i = j + 1
    · subst e; exact Nat.le_refl _
    · have := ih (by omega); rw [posN]; omega
theorem posN_lt {R : Nat → Rc} {i j : Nat} (h : head R i = true) (hij : i < j) : posN R i < posN R j := by
  have h1 := posN_mono R (i + 1) j hij
  rw [posN, if_pos h] at h1
  omega
theorem posN_le (R : Nat → Rc) : ∀ i, posN R i ≤ i := by
  intro i
  induction i with
  | zero => exact Nat.le_refl _
  | succ i ih => rw [posN]; split <;> omega
theorem posN_inj {R : Nat → Rc} {i j : Nat} (hi : head R i = true) (hj : head R j = true) (h : posN R i = posN R j) : i = j := by
  rcases Nat.lt_trichotomy i j with h1 | h1 | h1
  · have := posN_lt hi h1; omega
  · exact h1
  · have := posN_lt hj h1; omega
/-- Is record j added to record i? -/
def adds (R : Nat → Rc) (i j : Nat) : Bool := (R i).grp && ((R j).grp && sameK (R j) (R i))
/-- What record i may have come to once the d records behind it have been looked at. -/
def Mg (R : Nat → Rc) (i : Nat) : Nat → Rc → Prop
  | 0, x => x = R i
  | d + 1, x => ∃ y, Mg R i d y ∧ ((adds R i (i + 1 + d) = false ∧ x = y) ∨ (adds R i (i + 1 + d) = true ∧ ∃ c, FAdd y.cpu (R (i + 1 + d)).cpu c ∧ x = mrg y (R (i + 1 + d)) c))
theorem Mg.same {R : Nat → Rc} {i : Nat} : ∀ {d : Nat} {x y : Rc}, Mg R i d x → Mg R i d y → Same x y := by
  intro d
  induction d with
  | zero => intro x y hx hy; rw [show x = R i from hx, show y = R i from hy]; exact Same.refl _
  | succ d ih =>
    rintro x y ⟨x', hx, h1⟩ ⟨y', hy, h2⟩
    have hs := ih hx hy
    rcases h1 with ⟨a1, rfl⟩ | ⟨a1, c, hc, rfl⟩
    · rcases h2 with ⟨_, rfl⟩ | ⟨a2, _⟩
      · exact hs
      · rw [a1] at a2; cases a2
    · rcases h2 with ⟨a2, _⟩ | ⟨_, c', hc', rfl⟩
      · rw [a1] at a2; cases a2
      · exact hs.mrg hc hc'
theorem Mg.loose {R : Nat → Rc} {i : Nat} (hg : (R i).grp = false) : ∀ {d : Nat} {x : Rc}, Mg R i d x → x = R i := by
  intro d
  induction d with
  | zero => intro x h; exact h
  | succ d ih =>
    rintro x ⟨y, hy, h⟩
    rcases h with ⟨_, rfl⟩ | ⟨a, _⟩
    · exact ih hy
    · unfold adds at a; rw [hg] at a; cases a
theorem Mg.keep {R : Nat → Rc} {i : Nat} : ∀ {d : Nat} {x : Rc}, Mg R i d x → x.job = (R i).job ∧ x.comm = (R i).comm := by
  intro d
  induction d with
  | zero => intro x h; rw [show x = R i from h]; exact ⟨rfl, rfl⟩
  | succ d ih =>
    rintro x ⟨y, hy, h⟩
    have := ih hy
    rcases h with ⟨_, rfl⟩ | ⟨_, c, _, rfl⟩
    · exact this
    · exact this

/-- THE PLAIN LAW: what rollup has made of the first k records. -/
structure Made (R : Nat → Rc) (k m : Nat) (O : Nat → Rc) (M : Key → Option Nat) : Prop where
  len : m = posN R k
  out : ∀ i, i < k → head R i = true → Mg R i (k - (i + 1)) (O (posN R i))
  no : ∀ q, M q = none → ∀ j, j < k → (R j).grp = true → (R j).key ≠ q
  yes : ∀ q p, M q = some p → ∃ i, i < k ∧ head R i = true ∧ (R i).grp = true ∧ (R i).key = q ∧ p = posN R i
theorem Roll.made {R : Nat → Rc} {k m : Nat} {O : Nat → Rc} {M : Key → Option Nat} (h : Roll R k m O M) : Made R k m O M := by
  induction h using Roll.ind with
  | nil O => exact ⟨rfl, fun i hi => by omega, fun q _ j hj => by omega, fun q p h => by cases h⟩
  | @loose k m O M h hg ih =>
    have hh : head R k = true := by unfold head; rw [hg]; rfl
    refine ⟨by rw [posN, if_pos hh, ih.len], fun i hi hi2 => ?_, fun q hq j hj hj2 => ?_, fun q p hq => ?_⟩
    · by_cases e : i = k
      · subst e
        rw [← ih.len, setAt_same, show i + 1 - (i + 1) = 0 by omega]; rfl
      · have hlt := posN_lt hi2 (show i < k by omega)
        rw [setAt_other (by have := ih.len; omega), show k + 1 - (i + 1) = (k - (i + 1)) + 1 by omega]
        exact ⟨_, ih.out i (by omega) hi2, .inl ⟨by rw [show i + 1 + (k - (i + 1)) = k by omega]; unfold adds; rw [hg]; simp, rfl⟩⟩
    · by_cases e : j = k
      · subst e; rw [hg] at hj2; cases hj2
      · exact ih.no q hq j (by omega) hj2
    · obtain ⟨i, h1, h2⟩ := ih.yes q p hq
      exact ⟨i, by omega, h2⟩
  | @first k m O M h hg hn ih =>
    have hE : hasE R k k = false := by
      rw [Bool.eq_false_iff]
      intro he
      obtain ⟨j, h1, h2, h3⟩ := (hasE_iff k).1 he
      exact ih.no _ hn j h1 h2 h3
    have hh : head R k = true := by unfold head; rw [hg, hE]; rfl
    refine ⟨by rw [posN, if_pos hh, ih.len], fun i hi hi2 => ?_, fun q hq j hj hj2 => ?_, fun q p hq => ?_⟩
    · by_cases e : i = k
      · subst e
        rw [← ih.len, setAt_same, show i + 1 - (i + 1) = 0 by omega]; rfl
      · have hlt := posN_lt hi2 (show i < k by omega)
        rw [setAt_other (by have := ih.len; omega), show k + 1 - (i + 1) = (k - (i + 1)) + 1 by omega]
        refine ⟨_, ih.out i (by omega) hi2, .inl ⟨?_, rfl⟩⟩
        rw [show i + 1 + (k - (i + 1)) = k by omega, Bool.eq_false_iff]
        intro ha
        unfold adds at ha
        rw [Bool.and_eq_true, Bool.and_eq_true, sameK_iff] at ha
        exact ih.no _ hn i (by omega) ha.1 ha.2.2.symm
    · by_cases eq : q = (R k).key
      · subst eq; rw [upd_same] at hq; cases hq
      · rw [upd_other eq] at hq
        by_cases e : j = k
        · subst e; exact fun e2 => eq e2.symm
        · exact ih.no q hq j (by omega) hj2
    · by_cases eq : q = (R k).key
      · subst eq; rw [upd_same] at hq; cases hq
        exact ⟨k, by omega, hh, hg, rfl, ih.len⟩
      · rw [upd_other eq] at hq
        obtain ⟨i, h1, h2⟩ := ih.yes q p hq
        exact ⟨i, by omega, h2⟩
  | @more k m O M h hg p c hn hc ih =>
    obtain ⟨i0, l0, hd0, g0, k0, rfl⟩ := ih.yes _ _ hn
    have hE : hasE R k k = true := (hasE_iff k).2 ⟨i0, l0, g0, k0⟩
    have hh : head R k = false := by unfold head; rw [hg, hE]; rfl
    refine ⟨by rw [posN, hh, ih.len]; rfl, fun i hi hi2 => ?_, fun q hq j hj hj2 => ?_, fun q p hq => ?_⟩
    · have hik : i ≠ k := fun e => by subst e; rw [hh] at hi2; cases hi2
      rw [show k + 1 - (i + 1) = (k - (i + 1)) + 1 by omega]
      by_cases e : i = i0
      · subst e
        rw [setAt_same]
        refine ⟨_, ih.out i l0 hd0, .inr ⟨?_, c, ?_, ?_⟩⟩
        · rw [show i + 1 + (k - (i + 1)) = k by omega]
          unfold adds
          rw [g0, hg, sameK_iff.2 k0.symm]; rfl
        · rw [show i + 1 + (k - (i + 1)) = k by omega]; exact hc
        · rw [show i + 1 + (k - (i + 1)) = k by omega]
      · rw [setAt_other (fun e2 => e (posN_inj hi2 hd0 e2))]
        refine ⟨_, ih.out i (by omega) hi2, .inl ⟨?_, rfl⟩⟩
        rw [show i + 1 + (k - (i + 1)) = k by omega, Bool.eq_false_iff]
        intro ha
        unfold adds at ha
        rw [Bool.and_eq_true, Bool.and_eq_true, sameK_iff] at ha
        obtain ⟨gi, _, ki⟩ := ha
        have ki0 : (R i).key = (R i0).key := by rw [← ki, k0]
        rcases Nat.lt_or_ge i i0 with hl | hl
        · have : hasE R i0 i0 = true := (hasE_iff i0).2 ⟨i, hl, gi, ki0⟩
          unfold head at hd0; rw [g0, this] at hd0; cases hd0
        · have : hasE R i i = true := (hasE_iff i).2 ⟨i0, by omega, g0, ki0.symm⟩
          unfold head at hi2; rw [gi, this] at hi2; cases hi2
    · by_cases e : j = k
      · subst e; intro e2; rw [e2, hq] at hn; cases hn
      · exact ih.no q hq j (by omega) hj2
    · obtain ⟨i, h1, h2⟩ := ih.yes q p hq
      exact ⟨i, by omega, h2⟩
end Go.Proofs.Qxb6604053a
