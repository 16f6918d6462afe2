import Derived.Test.Qxb6604053aRoll
namespace Go.Proofs.Qxb6604053a
open Go.RowKit

def sumN (f : Rc → Int) (R : Nat → Rc) : Nat → Int
  | 0 => 0
  | k + 1 => sumN f R k + f (R k)
def cntN (p : Rc → Bool) (R : Nat → Rc) : Nat → Nat
  | 0 => 0
  | k + 1 => cntN p R k + if p (R k) then 1 else 0
def Cong (x y : Int) : Prop := ∃ q : Int, x = y + q * 18446744073709551616
theorem uw (n : Int) : IntKind.u64.wrap n = n % 18446744073709551616 := by
  simp [IntKind.wrap, IntKind.signed, IntKind.bits]
theorem sumN_past (f : Rc → Int) (R : Nat → Rc) (r : Rc) (m : Nat) : ∀ k, k ≤ m → sumN f (setAt R m r) k = sumN f R k := by
  intro k
  induction k with
  | zero => intro _; rfl
  | succ k ih => intro h; rw [sumN, sumN, ih (by omega), setAt_other (by omega)]
theorem sumN_set (f : Rc → Int) (R : Nat → Rc) (r : Rc) (i : Nat) : ∀ k, i < k → sumN f (setAt R i r) k = sumN f R k - f (R i) + f r := by
  intro k
  induction k with
  | zero => intro h; omega
  | succ k ih =>
    intro h
    rw [sumN, sumN]
    by_cases e : i = k
    · subst e; rw [sumN_past f R r i i (Nat.le_refl _), setAt_same]; omega
    · rw [ih (by omega), setAt_other (by omega)]; omega
theorem cntN_past (p : Rc → Bool) (R : Nat → Rc) (r : Rc) (m : Nat) : ∀ k, k ≤ m → cntN p (setAt R m r) k = cntN p R k := by
  intro k
  induction k with
  | zero => intro _; rfl
  | succ k ih => intro h; rw [cntN, cntN, ih (by omega), setAt_other (by omega)]
theorem cntN_set (p : Rc → Bool) (R : Nat → Rc) (r : Rc) (i : Nat) (hp : p r = p (R i)) : ∀ k, cntN p (setAt R i r) k = cntN p R k := by
  intro k
  induction k with
  | zero => rfl
  | succ k ih =>
    rw [cntN, cntN, ih]
    by_cases e : k = i
    · subst e; rw [setAt_same, hp]
    · rw [setAt_other e]
theorem cntN_le (p : Rc → Bool) (R : Nat → Rc) : ∀ k, cntN p R k ≤ k := by
  intro k
  induction k with
  | zero => exact Nat.le_refl _
  | succ k ih => rw [cntN]; split <;> omega

/-- A field that merge adds keeps its total. -/
theorem Roll.sum {R : Nat → Rc} {k m : Nat} {O : Nat → Rc} {M : Key → Option Nat} (h : Roll R k m O M) (f : Rc → Int) (hf : ∀ a b c, Cong (f (mrg a b c)) (f a + f b)) : Cong (sumN f R k) (sumN f O m) := by
  induction h using Roll.ind with
  | nil O => exact ⟨0, rfl⟩
  | @loose k m O M h hg ih =>
    obtain ⟨q, hq⟩ := ih
    refine ⟨q, ?_⟩
    rw [sumN, sumN, sumN_past f O _ m m (Nat.le_refl _), setAt_same, hq]; omega
  | @first k m O M h hg hn ih =>
    obtain ⟨q, hq⟩ := ih
    refine ⟨q, ?_⟩
    rw [sumN, sumN, sumN_past f O _ m m (Nat.le_refl _), setAt_same, hq]; omega
  | @more k m O M h hg i c hn hc ih =>
    obtain ⟨q, hq⟩ := ih
    obtain ⟨q2, hq2⟩ := hf (O i) (R k) c
    refine ⟨q - q2, ?_⟩
    rw [sumN, sumN_set f O _ i m (h.lt hn), hq, hq2]; omega
theorem Roll.count {R : Nat → Rc} {k m : Nat} {O : Nat → Rc} {M : Key → Option Nat} (h : Roll R k m O M) (hz : ∀ t, t < k → (R t).rolled = 0) : Cong (sumN (fun r => 1 + r.rolled) R k) (sumN (fun r => 1 + r.rolled) O m) := by
  induction h using Roll.ind with
  | nil O => exact ⟨0, rfl⟩
  | @loose k m O M h hg ih =>
    obtain ⟨q, hq⟩ := ih (fun t ht => hz t (by omega))
    refine ⟨q, ?_⟩
    rw [sumN, sumN, sumN_past _ O _ m m (Nat.le_refl _), setAt_same, hq]; omega
  | @first k m O M h hg hn ih =>
    obtain ⟨q, hq⟩ := ih (fun t ht => hz t (by omega))
    refine ⟨q, ?_⟩
    rw [sumN, sumN, sumN_past _ O _ m m (Nat.le_refl _), setAt_same, hq]; omega
  | @more k m O M h hg i c hn hc ih =>
    obtain ⟨q, hq⟩ := ih (fun t ht => hz t (by omega))
    have hk := hz k (by omega)
    obtain ⟨q2, hq2⟩ : Cong (mrg (O i) (R k) c).rolled ((O i).rolled + 1) := by
      show Cong (wrap64 ((O i).rolled + 1)) ((O i).rolled + 1)
      unfold wrap64 Cong
      exact ⟨-(((O i).rolled + 1 + 9223372036854775808) / 18446744073709551616), by omega⟩
    refine ⟨q - q2, ?_⟩
    rw [sumN, sumN_set _ O _ i m (h.lt hn), hq, hq2, hk]; omega
def isLoose (r : Rc) : Bool := !r.grp
theorem Roll.loose_same {R : Nat → Rc} {k m : Nat} {O : Nat → Rc} {M : Key → Option Nat} (h : Roll R k m O M) : cntN isLoose R k = cntN isLoose O m := by
  induction h using Roll.ind with
  | nil O => rfl
  | @loose k m O M h hg ih => rw [cntN, cntN, cntN_past _ O _ m m (Nat.le_refl _), setAt_same, ih]
  | @first k m O M h hg hn ih => rw [cntN, cntN, cntN_past _ O _ m m (Nat.le_refl _), setAt_same, ih]
  | @more k m O M h hg i c hn hc ih =>
    have e : isLoose (R k) = false := by unfold isLoose; rw [hg]; rfl
    rw [cntN, e, cntN_set isLoose O _ i (by rfl), ih]; rfl

/-! ### what the law's function reckons -/
def Acc (f : Rc → Int) (R : Nat → Rc) (k : Nat) (x : Int) : Prop := x = IntKind.u64.wrap (sumN f R k)
def Acc2 (f : Rc → Int) (R O : Nat → Rc) (n j : Nat) (x : Int) : Prop := x = IntKind.u64.wrap (sumN f R n - sumN f O j)
theorem Acc.step {f : Rc → Int} {R : Nat → Rc} {k : Nat} {x : Int} (h : Acc f R k x) : Acc f R (k + 1) (IntKind.u64.wrap (x + f (R k))) := by
  unfold Acc at *
  rw [h, uw, uw, uw, sumN]; omega
theorem Acc.start {f : Rc → Int} {R O : Nat → Rc} {n : Nat} {x : Int} (h : Acc f R n x) : Acc2 f R O n 0 x := by
  unfold Acc Acc2 at *
  rw [h, show sumN f O 0 = 0 from rfl, Int.sub_zero]
theorem Acc2.step {f : Rc → Int} {R O : Nat → Rc} {n j : Nat} {x : Int} (h : Acc2 f R O n j x) : Acc2 f R O n (j + 1) (IntKind.u64.wrap (x - f (O j))) := by
  unfold Acc2 at *
  rw [h, uw, uw, uw, sumN]; omega
theorem Acc2.zero {f : Rc → Int} {R O : Nat → Rc} {n m : Nat} {x : Int} (h : Acc2 f R O n m x) (hc : Cong (sumN f R n) (sumN f O m)) : x = 0 := by
  unfold Acc2 at h
  obtain ⟨q, hq⟩ := hc
  rw [h, uw]; omega
def cf (r : Rc) : Int := 1 + r.rolled
def AccN (R : Nat → Rc) (k : Nat) (x : Int) : Prop := x = wrap64 (sumN cf R k)
def AccN2 (R O : Nat → Rc) (n j : Nat) (x : Int) : Prop := x = wrap64 (sumN cf R n - sumN cf O j)
theorem AccN.step {R : Nat → Rc} {k : Nat} {x : Int} (h : AccN R k x) : AccN R (k + 1) (wrap64 (x + wrap64 (1 + (R k).rolled))) := by
  unfold AccN at *
  rw [h, sumN, cf]; unfold wrap64; omega
theorem AccN.start {R O : Nat → Rc} {n : Nat} {x : Int} (h : AccN R n x) : AccN2 R O n 0 x := by
  unfold AccN AccN2 at *
  rw [h, show sumN cf O 0 = 0 from rfl, Int.sub_zero]
theorem AccN2.step {R O : Nat → Rc} {n j : Nat} {x : Int} (h : AccN2 R O n j x) : AccN2 R O n (j + 1) (wrap64 (x - wrap64 (1 + (O j).rolled))) := by
  unfold AccN2 at *
  rw [h, show sumN cf O (j + 1) = sumN cf O j + (1 + (O j).rolled) from rfl]; unfold wrap64; omega
theorem AccN2.zero {R O : Nat → Rc} {n m : Nat} {x : Int} (h : AccN2 R O n m x) (hc : Cong (sumN cf R n) (sumN cf O m)) : x = 0 := by
  unfold AccN2 at h
  obtain ⟨q, hq⟩ := hc
  rw [h]; unfold wrap64; omega
def azTo (R : Nat → Rc) : Nat → Bool
  | 0 => true
  | k + 1 => azTo R k && (R k).rolled == 0
theorem azTo_all {R : Nat → Rc} : ∀ k, azTo R k = true → ∀ t, t < k → (R t).rolled = 0 := by
  intro k
  induction k with
  | zero => intro _ t ht; omega
  | succ k ih =>
    intro h t ht
    rw [azTo, Bool.and_eq_true] at h
    by_cases e : t = k
    · subst e; simpa using h.2
    · exact ih h.1 t (by omega)
theorem cong_u {x y : Int} : Cong (IntKind.u64.wrap (x + y)) (x + y) := ⟨-((x + y) / 18446744073709551616), by rw [uw]; omega⟩
end Go.Proofs.Qxb6604053a
