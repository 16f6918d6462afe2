import Derived.Test.Qxb6604053aMem
import Derived.Deep.DeepCutAuto
namespace Go.Proofs.Qxb6604053a
open Go.RowKit

/-- toRecord's memory when k cells have been copied. -/
structure Cp (W w : World) (r : Rc) (k : Nat) : Prop where
  size : W.heap.size = w.heap.size + 3
  src : W.heap[w.heap.size]? = some (.cells r.cells 36 (0, 0))
  dst : ∃ z, W.heap[w.heap.size + 1]? = some (.cells (Rc.cells z) 34 (0, 0))
  row : ∃ z : Rc, W.rowIs (w.heap.size + 2) 34 19 (fun j => if j < k then r.cell j else z.cell j)
  grown : w.grownBy W none
theorem row_of {W : World} {b : Nat} {t : TypeId} {r : Rc} (h : W.heap[b]? = some (.cells r.cells t (0, 0))) : W.rowIs b t 19 r.cell :=
  ⟨r.cells, h, rfl, fun i hi => by have := r.get i hi; simpa [Rc.cells] using this⟩
theorem wpList_load_cp {ops : Array Oper} {rest : List Oper} {op : Oper} {a : Act} {w W : World} {Q : Exit → Act → World → Prop} {r : Rc} {k : Nat} (hC : Cp W w r k) (hgd : op.guard = none) (ty : TypeId) (x : Operand) (ho : op.op = .load ty x)
    (j : Nat) (hx : a.eval x = .pointer (some ⟨w.heap.size, j, none⟩)) (hj : j < 19) (hf : Cellish ty)
    (h : wpList Try.prog ops Q rest (a.put op.dst (r.cell j)) W) : wpList Try.prog ops Q (op :: rest) a W :=
  wpList_load_cell hgd ty x ho w.heap.size j hx (r.cell j) (by have := RecAt.of_row hC.src j hj; rwa [Nat.zero_add] at this) hf.1 h
theorem wpList_store_cp {ops : Array Oper} {rest : List Oper} {op : Oper} {a : Act} {w W : World} {Q : Exit → Act → World → Prop} {r : Rc} {k : Nat} (hC : Cp W w r k) (hgd : op.guard = none) (ty : TypeId) (x y : Operand) (ho : op.op = .store ty x y)
    (hx : a.eval x = .pointer (some ⟨w.heap.size + 2, k, none⟩)) (hy : a.eval y = r.cell k) (hk : k < 19) (hf : Cellish ty)
    (h : ∀ W', Cp W' w r (k + 1) → wpList Try.prog ops Q rest (a.put op.dst undef) W') : wpList Try.prog ops Q (op :: rest) a W := by
  obtain ⟨z, hrow⟩ := hC.row
  refine wpList_store_cell hgd ty x y ho (w.heap.size + 2) k hx (r.cell k) hy (by rw [hrow.cell hk]; rfl) (hrow.frozen k) (r.one k hk) hf.2 (h _ ?_)
  have hoth : ∀ b, b ≠ w.heap.size + 2 → (W.setCell ⟨w.heap.size + 2, k, none⟩ (r.cell k)).heap[b]? = W.heap[b]? := fun b hb => Below.heap_setCell W ⟨w.heap.size + 2, k, none⟩ (r.cell k) b hb
  refine ⟨by simp [hC.size], (hoth _ (by omega)).trans hC.src, ?_, ⟨z, (hrow.set k (r.cell k)).congr fun j hj => ?_⟩, grownBy_new hC.grown (grownBy_setCell W _ _) (fun q hq => by cases hq; show w.heap.size ≤ w.heap.size + 2; omega)⟩
  · obtain ⟨z', hz'⟩ := hC.dst
    exact ⟨z', (hoth _ (by omega)).trans hz'⟩
  · show (if j = k then r.cell k else if j < k then r.cell j else z.cell j) = if j < k + 1 then r.cell j else z.cell j
    by_cases e : j = k
    · subst e; rw [if_pos rfl, if_pos (by omega)]
    · rw [if_neg e]
      by_cases e2 : j < k
      · rw [if_pos e2, if_pos (by omega)]
      · rw [if_neg e2, if_neg (by omega)]

theorem Cp.whole {W w : World} {r : Rc} (h : Cp W w r 19) : RecAt W (w.heap.size + 2) 0 r := by
  obtain ⟨z, hr⟩ := h.row
  intro j hj
  rw [Nat.zero_add, hr.cell hj, if_pos hj]
theorem Cp.room {W w : World} {r : Rc} {k : Nat} (h : Cp W w r k) : W.there (w.heap.size + 1) 0 19 := by
  obtain ⟨z, hz⟩ := h.dst
  intro j hj
  exact ⟨by rw [RecAt.of_row hz j hj]; rfl, by rw [Nat.zero_add]; exact (row_of hz).frozen j⟩
theorem results_cell_rec {fn : Func} {p : Tmp} (h : fn.results = #[.cell p 34]) (tmps : Array Value) (w : World) (b : Nat) (r : Rc) (hp : tmps.getD p undef = .pointer (some ⟨b, 0, none⟩)) (hr : RecAt w b 0 r) :
    (results fn tmps).run Try.prog w = .ok r.val w := by
  have hp' : tmps[p]?.getD undef = .pointer (some ⟨b, 0, none⟩) := by simpa using hp
  have hl := run_loadVar_mid (P := Try.prog) w b 0 34 r.list _ hr.range Try.underlying34 rfl row34
  have hl' : (loadVar 34 ⟨b, 0, none⟩).run Try.prog w = .ok r.val w := hl
  simp [results, h, hp', asAddr, hl']

set_option maxRecDepth 100000 in
set_option maxHeartbeats 4000000 in
theorem toRecord14 (r : Rc) (w : World) : Calls Try.prog 14 #[r.val] w fun e w' => e = .returned r.val ∧ w.grownBy w' none := by
  go_enter Try.func14, Try.ntmps14
  go_upto_region 2 with (first
    | ((with_reducible refine wpList_box_rec rfl 36 _ rfl r ?_ w.heap.size rfl ?_); rfl; intro w1 hb1 hg1 hs1)
    | ((with_reducible refine wpList_new_rec rfl rfl (w.heap.size + 1) hs1 ?_); intro w2 hb2 hg2 hs2)
    | ((with_reducible refine wpList_new_rec rfl rfl (w.heap.size + 2) hs2 ?_); intro w3 hb3 hg3 hs3))
  have hC : Cp w3 w r 0 := by
    obtain ⟨z, hb3⟩ := hb3
    refine ⟨hs3, ?_, ?_, ⟨z, (row_of hb3).congr fun j _ => (if_neg (by omega)).symm⟩, grownBy_trans (grownBy_trans hg1 hg2) hg3⟩
    · rw [hg3.block _ (by omega) (by simp), hg2.block _ (by omega) (by simp)]; exact hb1
    · obtain ⟨z', hb2⟩ := hb2
      exact ⟨z', by rw [hg3.block _ (by omega) (by simp)]; exact hb2⟩
  clear hb1 hb2 hb3 hg1 hg2 hg3 hs1 hs2 hs3
  go_upto_region 21 with (first
    | ((with_reducible refine wpList_load_cp hC rfl _ _ rfl ?_ ?_ ?_ ?_ ?_); rotate_left; rfl; decide; exact cellish (by decide))
    | ((with_reducible refine wpList_store_cp hC rfl _ _ _ rfl ?_ ?_ ?_ ?_ ?_); rfl; rfl; decide; exact cellish (by decide); intro w4 hC'; clear hC; have hC := hC'; clear hC'))
  go_wp2_with (first
    | ((with_reducible refine wpList_load_rec rfl _ _ rfl (w.heap.size + 2) 0 ?_ r (Cp.whole hC) isRow34 ?_); rfl)
    | ((with_reducible refine wpList_store_rec rfl _ _ _ rfl (w.heap.size + 1) 0 r ?_ ?_ (Cp.room hC) isRow34 ?_); rfl; rfl; intro w5 h5 _ _ hg5 _))
  refine bodyPost_ret (results_cell_rec rfl _ _ (w.heap.size + 1) r rfl h5) rfl ⟨rfl, grownBy_new hC.grown hg5 (fun q hq => by cases hq; omega)⟩
end Go.Proofs.Qxb6604053a
