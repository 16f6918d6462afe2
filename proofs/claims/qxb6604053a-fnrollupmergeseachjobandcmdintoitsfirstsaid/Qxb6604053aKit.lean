import Derived.Test.Qxb6604053aRows
import Derived.WalkKit
import Derived.WalkSpells
import Derived.WalkLawsBesides
import Derived.Deep.OwnRows
namespace Go.Proofs.Qxb6604053a
open Go.RowKit

/-! ### make, the world behind it under a name -/
theorem wpList_make_abs {P : Program} {ops : Array Oper} {rest : List Oper} {o : Oper} {a : Act} {w : World} {Q : Exit → Act → World → Prop} (hg : o.guard = none) (l c : Operand) (t : TypeId) (hop : o.op = Op.makeSlice t l c)
    (e : TypeId) (z : Value) (size bytes : Nat) (h1 : P.underlying t = some (.slice e)) (hinfo : (P.info? e).map (fun i => (i.zero, i.size, i.bytes)) = some (some z, size, bytes))
    (n : Nat) (L : Int) (hl : a.eval l = .int .i64 L) (hc : a.eval c = .int .i64 L) (hL : L = (n : Int)) (b2 : bytes * n ≤ 281474976710656) (b3 : n ≤ 9223372036854775807)
    (hK : ∀ w', w'.heap[w.heap.size]? = some (.cells (madeCells z.cells (n * size)) e (0, 0)) → Below w.heap.size w w' → w'.heap.size = w.heap.size + 1 → wpList P ops Q rest (a.put o.dst (.slice (some ⟨w.heap.size, 0, none⟩) n n)) w') :
    wpList P ops Q (o :: rest) a w := by
  obtain ⟨i, hi, hz, hs, hb⟩ := info_parts hinfo
  refine wpList_plain hg fun K hK' => ?_
  subst hL
  have hb' : (i.bytes : Int) * (n : Int) ≤ 281474976710656 := by
    have h : ((i.bytes * n : Nat) : Int) ≤ 281474976710656 := by rw [hb]; omega
    rwa [Int.natCast_mul] at h
  have hrun := run_make (P := P) w t e i z h1 hi hz .i64 .i64 n n (by omega) (Int.le_refl _) hb' (by omega)
  simp only [Int.toNat_natCast, hs] at hrun
  unfold Oper.wp
  simp [execOp, hop, hl, hc, hrun, Result.andThen]
  exact hK' _ _ (hK _ (heap_alloc_new _ _) ((Below.refl _ _).alloc (Nat.le_refl _) _) (by simp))
theorem made_rowIs {W : World} {b : Nat} {z : Array Value} {n : Nat} {e : TypeId} (h : W.heap[b]? = some (.cells (madeCells z n) e (0, 0))) : W.rowIs b e n (fun j => z[j % z.size]!) :=
  ⟨_, h, size_madeCells _ _, fun i hi => by simp [madeCells, hi]⟩
theorem cell_lt {w : World} {a : Addr} {v : Value} (h : w.cell? a = some v) : a.block < w.heap.size := by
  rcases Nat.lt_or_ge a.block w.heap.size with hlt | hge
  · exact hlt
  · have : w.heap[a.block]? = none := by simp [hge]
    simp [World.cell?, this] at h
/-- The call has handed back a bool. -/
def IsBool (e : Ending) : Prop := ∃ b : Bool, e = .returned (.bool b)
/-- .. and where it is true the bound holds. -/
def IsBoolIf (p : Prop) (e : Ending) : Prop := ∃ b : Bool, e = .returned (.bool b) ∧ (b = true → p)
/-- The first of the numbers below n at which p holds, or none. -/
theorem first_of (p : Nat → Bool) (n : Nat) : (∀ i, i < n → p i = false) ∨ ∃ i, i < n ∧ p i = true ∧ ∀ j, j < i → p j = false := by
  induction n with
  | zero => exact .inl fun i hi => by omega
  | succ n ih =>
    rcases ih with h | ⟨i, h1, h2, h3⟩
    · cases hp : p n with
      | false =>
        refine .inl fun i hi => ?_
        by_cases e : i = n
        · rw [e]; exact hp
        · exact h i (by omega)
      | true => exact .inr ⟨n, by omega, hp, h⟩
    · exact .inr ⟨i, by omega, h2, h3⟩
end Go.Proofs.Qxb6604053a
