import Derived.Test.Qxb6604053aMerge
namespace Go.Proofs.Qxb6604053a
open Go.RowKit

def z0 : Rc := ⟨0, ⟨#[]⟩, ⟨#[]⟩, 0, 0, 0, 0, 0, 0, false, 0, 0, 0, 0, ⟨#[]⟩, ⟨#[]⟩, 0, 0, 0⟩
theorem info34 : (Try.prog.info? 34).map (fun i => (i.zero, i.size, i.bytes)) = some (some z0.val, 19, 184) := by kernel_rfl
/-- The slice of records that came in. -/
def In (w : World) (a : Option Addr) (n : Nat) (R : Nat → Rc) : Prop :=
  0 < n → ∃ b off, a = some ⟨b, off, none⟩ ∧ b < w.heap.size ∧ ∀ i, i < n → RecAt w b (off + i * 19) (R i)
theorem In.later {w w' : World} {a : Option Addr} {n : Nat} {R : Nat → Rc} (h : In w a n R) (hb : Below w.heap.size w w') : In w' a n R := by
  intro hn
  obtain ⟨b, off, ha, hlt, hc⟩ := h hn
  exact ⟨b, off, ha, Nat.lt_of_lt_of_le hlt hb.size, fun i hi => (hc i hi).below hb hlt⟩
theorem below_of {a b : World} (h : a.grownBy b none) : Below a.heap.size a b := ⟨h.os, h.tape, h.output, h.size, fun k hk => h.block k hk (by simp)⟩
theorem recs_made {W : World} {b n : Nat} (h : W.heap[b]? = some (.cells (madeCells z0.val.cells (n * 19)) 34 (0, 0))) : Recs W b n (fun _ => z0) := by
  have hr := made_rowIs h
  refine ⟨fun t ht j hj => ?_, fun j hj => hr.frozen j⟩
  rw [hr.cell (by have := Nat.mul_le_mul_right 19 (show t + 1 ≤ n from ht); omega)]
  have e : (t * 19 + j) % 19 = j := by omega
  show some (z0.cells[(t * 19 + j) % 19]!) = _
  rw [e]
  exact congrArg some (by revert j; exact lt19 (fun _ => rfl) (fun _ => rfl) (fun _ => rfl) (fun _ => rfl) (fun _ => rfl) (fun _ => rfl) (fun _ => rfl) (fun _ => rfl) (fun _ => rfl) (fun _ => rfl) (fun _ => rfl) (fun _ => rfl) (fun _ => rfl) (fun _ => rfl) (fun _ => rfl) (fun _ => rfl) (fun _ => rfl) (fun _ => rfl) (fun _ => rfl))
/-- The first k records of R. -/
def upto (R : Nat → Rc) (k : Nat) : Nat → Rc := fun t => if t < k then R t else z0
theorem upto_step (R : Nat → Rc) (k : Nat) : ∀ t, setAt (upto R k) k (R k) t = upto R (k + 1) t := by
  intro t
  unfold setAt upto
  by_cases e : t = k
  · subst e; rw [if_pos rfl, if_pos (by omega)]
  · rw [if_neg e]
    by_cases e2 : t < k
    · rw [if_pos e2, if_pos (by omega)]
    · rw [if_neg e2, if_neg (by omega)]

set_option maxRecDepth 100000 in
set_option maxHeartbeats 4000000 in
theorem build7 (a : Option Addr) (n c : Nat) (R : Nat → Rc) (w : World) (hs : In w a n R) (hn : n ≤ 1048576) :
    Calls Try.prog 7 #[.slice a n c] w fun e w' => e = .returned (.slice (some ⟨w.heap.size, 0, none⟩) n n) ∧ Recs w' w.heap.size n R ∧ w.grownBy w' none ∧ w.heap.size < w'.heap.size := by
  go_enter Try.func7, Try.ntmps7
  go_wp2_with (first
    | ((with_reducible refine wpList_make_abs rfl _ _ 25 rfl 34 z0.val 19 184 Try.underlying25 info34 n (n : Int) ?_ ?_ rfl ?_ ?_ ?_); rfl; rfl; omega; omega; intro w1 hb1 hB1 hs1))
  have hR := recs_made hb1
  have hG : w.grownBy w1 none := grownBy_below hB1 none
  clear hb1 hB1
  go_loopw [4] (fun i wr => ∃ k : Nat, k ≤ n ∧ i = .int .i64 k ∧ Recs wr w.heap.size n (upto R k) ∧ w.grownBy wr none ∧ w.heap.size < wr.heap.size) (fun i _ => n - (intOf i).toNat)
  case atStart => exact ⟨0, Nat.zero_le _, rfl, hR.congr fun t _ => (if_neg (by omega)).symm, hG, by omega⟩
  case round =>
    clear hR hG
    obtain ⟨k, hk, rfl, hR, hG, hsz⟩ := hrel
    by_cases hlt : k < n
    · obtain ⟨b, off, rfl, hb, hc⟩ := hs (by omega)
      have hlt' : (k : Int) < n := by omega
      have hck := (hc k hlt).kept (hG.block b hb (by simp))
      clear hs hc
      go_wp2_with (first
        | ((with_reducible refine wpList_load_rec rfl _ _ rfl b (off + k * 19) ?_ (R k) hck isRow36 ?_); rfl)
        | (go_at_call 14; refine (toRecord14 (R k) wr).mono ?_; rintro e w2 ⟨rfl, hg2⟩)
        | ((with_reducible refine wpList_store_rec rfl _ _ _ rfl w.heap.size (k * 19) (R k) ?_ ?_ ((hR.kept (hg2.block _ hsz (by simp))).there hlt) isRow34 ?_); rfl; rfl; intro w3 h3 ho3 hf3 hg3 hs3))
      go_roundw
      case rel => 
        refine ⟨k + 1, by omega, by go_num, ?_, ?_, ?_⟩
        · exact ((hR.kept (hg2.block _ hsz (by simp))).put h3 (fun o ho => ho3 ⟨w.heap.size, o, none⟩ (fun _ _ => ho)) (fun j => hf3 _)).congr fun t _ => upto_step R k t
        · exact grownBy_new (grownBy_trans hG hg2) hg3 (fun q hq => by cases hq; omega)
        · have := hg2.size; omega
      case measure => simp [intOf]; omega
    · have hge : (n : Int) ≤ k := by omega
      obtain rfl : n = k := by omega
      clear hlt
      go_wp2
      go_ret
      exact ⟨rfl, hR.congr fun t ht => if_pos ht, hG, hsz⟩
end Go.Proofs.Qxb6604053a
