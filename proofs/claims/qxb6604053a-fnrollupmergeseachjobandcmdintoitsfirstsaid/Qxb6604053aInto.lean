import Derived.Test.Qxb6604053aEq
namespace Go.Proofs.Qxb6604053a
open Go.RowKit

theorem wpList_new_rec36 {ops : Array Oper} {rest : List Oper} {o : Oper} {a : Act} {w : World} {Q : Exit → Act → World → Prop} (hg : o.guard = none) (ho : o.op = .alloc 36) (N : Nat) (hN : w.heap.size = N)
    (h : ∀ w', (∃ z, w'.heap[N]? = some (.cells (Rc.cells z) 36 (0, 0))) → w.grownBy w' none → w'.heap.size = N + 1 → wpList Try.prog ops Q rest (a.put o.dst (.pointer (some ⟨N, 0, none⟩))) w') : wpList Try.prog ops Q (o :: rest) a w := by
  subst hN
  refine Great.wpList_allocTo hg o.dst rfl (.pointer (some ⟨w.heap.size, 0, none⟩)) (.cells z0.cells 36) ?_ (h _ ⟨z0, heap_alloc_new _ _⟩ (World.grownBy_alloc _ _ _) (by simp))
  unfold execOp
  simp only [ho]
  kernel_rfl
theorem results_cell_rec36 {fn : Func} {p : Tmp} (h : fn.results = #[.cell p 36]) (tmps : Array Value) (w : World) (b : Nat) (r : Rc) (hp : tmps.getD p undef = .pointer (some ⟨b, 0, none⟩)) (hr : RecAt w b 0 r) :
    (results fn tmps).run Try.prog w = .ok r.val w := by
  have hp' : tmps[p]?.getD undef = .pointer (some ⟨b, 0, none⟩) := by simpa using hp
  have hl := run_loadVar_mid (P := Try.prog) w b 0 36 r.list _ hr.range Try.underlying36 rfl row36
  have hl' : (loadVar 36 ⟨b, 0, none⟩).run Try.prog w = .ok r.val w := hl
  simp [results, h, hp', asAddr, hl']
/-- mergeInto's memory. -/
structure MI (W w : World) (cur r : Rc) : Prop where
  mem : RecAt W w.heap.size 0 cur
  src : RecAt W (w.heap.size + 1) 0 r
  row : W.there w.heap.size 0 19
  dst : W.there (w.heap.size + 2) 0 19
  grown : w.grownBy W none
theorem there_setCell {W : World} {b o n : Nat} (h : W.there b o n) (a : Addr) (v : Value) : (W.setCell a v).there b o n := fun j hj => by
  obtain ⟨h1, h2⟩ := h j hj
  refine ⟨?_, by rw [World.frozen?_setCell]; exact h2⟩
  obtain ⟨u, hu⟩ := Option.isSome_iff_exists.1 h1
  by_cases e : a = ⟨b, o + j, none⟩
  · subst e; rw [World.cell?_setCell_same _ _ _ hu]; rfl
  · rw [World.cell?_setCell_other _ _ _ _ e, hu]; rfl
theorem MI.step {W w : World} {cur r : Rc} (h : MI W w cur r) (cur' : Rc) (c : Nat) (hc : c < 19) (v : Value) (e : ∀ j, j < 19 → cur'.cell j = if j = c then v else cur.cell j) : MI (W.setCell ⟨w.heap.size, c, none⟩ v) w cur' r := by
  refine ⟨fun j hj => ?_, fun j hj => ?_, there_setCell h.row _ _, there_setCell h.dst _ _, ?_⟩
  · rw [e j hj, Nat.zero_add]
    have hm := h.mem j hj
    rw [Nat.zero_add] at hm
    by_cases ej : j = c
    · subst ej
      rw [if_pos rfl, World.cell?_setCell_same _ _ _ hm]
    · rw [if_neg ej, World.cell?_setCell_other _ _ _ _ (fun e' => by injection e' with _ e2; omega)]
      exact hm
  · rw [World.cell?_setCell_other _ _ _ _ (fun e' => by injection e' with e1 _; omega)]
    exact h.src j hj
  · exact grownBy_new h.grown (grownBy_setCell W ⟨w.heap.size, c, none⟩ v) (fun q hq => by cases hq; exact Nat.le_refl _)
theorem MI.drew {W w : World} {cur r : Rc} (h : MI W w cur r) : MI W.drew w cur r := ⟨h.mem, h.src, h.row, h.dst, grownBy_drew h.grown⟩
theorem there_row {W : World} {b : Nat} {t : TypeId} {z : Rc} (hz : W.heap[b]? = some (.cells z.cells t (0, 0))) : W.there b 0 19 := fun j hj => ⟨by rw [RecAt.of_row hz j hj]; rfl, by rw [Nat.zero_add]; exact (row_of hz).frozen j⟩
theorem there_kept {W W' : World} {b o n : Nat} (h : W.there b o n) (e : W'.heap[b]? = W.heap[b]?) : W'.there b o n := fun j hj => by
  rw [World.cell?_of_block (a := ⟨b, o + j, none⟩) e, World.frozen?_of_block (a := ⟨b, o + j, none⟩) e]; exact h j hj

set_option maxRecDepth 100000 in
set_option maxHeartbeats 4000000 in
theorem mergeInto12 (cur r : Rc) (w : World) : Calls Try.prog 12 #[cur.val, r.val] w fun e w' => ∃ c, e = .returned (mrg cur r c).val ∧ FAdd cur.cpu r.cpu c ∧ w.grownBy w' none := by
  go_enter Try.func12, Try.ntmps12
  go_upto_region 1 with (first
    | ((with_reducible refine wpList_box_rec rfl 36 _ rfl cur ?_ w.heap.size rfl ?_); rfl; intro w1 hb1 hg1 hs1)
    | ((with_reducible refine wpList_box_rec rfl 36 _ rfl r ?_ (w.heap.size + 1) hs1 ?_); rfl; intro w2 hb2 hg2 hs2)
    | ((with_reducible refine wpList_new_rec36 rfl rfl (w.heap.size + 2) hs2 ?_); intro v1 hb3 hg3 hs3))
  have hM1 : MI v1 w cur r := by
    obtain ⟨z, hb3⟩ := hb3
    have e1 : v1.heap[w.heap.size]? = w1.heap[w.heap.size]? := by rw [hg3.block _ (by omega) (by simp), hg2.block _ (by omega) (by simp)]
    have e2 : v1.heap[w.heap.size + 1]? = w2.heap[w.heap.size + 1]? := hg3.block _ (by omega) (by simp)
    exact ⟨(RecAt.of_row hb1).kept e1, (RecAt.of_row hb2).kept e2, there_kept (there_row hb1) e1, there_row hb3, grownBy_trans (grownBy_trans hg1 hg2) hg3⟩
  clear hb1 hb2 hb3 hg1 hg2 hg3 hs1 hs2 hs3
  obtain ⟨k1, hk1⟩ : ∃ k1 : Rc, k1 = cur := ⟨_, rfl⟩
  have HK1 : Hid (k1 = cur) := hk1
  rw [← hk1] at hM1
  clear hk1
  have c18 : v1.cell? ⟨w.heap.size, 18, none⟩ = some (.int .i64 k1.rolled) := hM1.mem 18 (by decide)
  have f18 : v1.frozen? ⟨w.heap.size, 18, none⟩ = false := (hM1.row 18 (by decide)).2
  go_upto_region 2 with fail
  obtain ⟨v2, hw2⟩ : ∃ v2, v2 = (v1.setCell ⟨w.heap.size, 18, none⟩ (.int .i64 (wrap64 (k1.rolled + 1)))) := ⟨_, rfl⟩
  rw [← hw2]
  obtain ⟨k2, hk2⟩ : ∃ k2 : Rc, k2 = { k1 with rolled := wrap64 (k1.rolled + 1) } := ⟨_, rfl⟩
  have hM2 : MI v2 w k2 r := by rw [hw2, hk2]; exact (hM1.step { k1 with rolled := wrap64 (k1.rolled + 1) } 18 (by decide) _ (lt19 rfl rfl rfl rfl rfl rfl rfl rfl rfl rfl rfl rfl rfl rfl rfl rfl rfl rfl rfl))
  have HK2 : Hid (k2 = { k1 with rolled := wrap64 (k1.rolled + 1) }) := hk2
  clear hM1 hw2 hk2
  clear c18 f18
  have c5 : v2.cell? ⟨w.heap.size, 5, none⟩ = some (.int .u64 k2.utime) := hM2.mem 5 (by decide)
  have f5 : v2.frozen? ⟨w.heap.size, 5, none⟩ = false := (hM2.row 5 (by decide)).2
  have s5 : v2.cell? ⟨w.heap.size + 1, 5, none⟩ = some (.int .u64 r.utime) := hM2.src 5 (by decide)
  go_upto_region 3 with fail
  obtain ⟨v3, hw3⟩ : ∃ v3, v3 = (v2.setCell ⟨w.heap.size, 5, none⟩ (.int .u64 (IntKind.u64.wrap (k2.utime + r.utime)))) := ⟨_, rfl⟩
  rw [← hw3]
  obtain ⟨k3, hk3⟩ : ∃ k3 : Rc, k3 = { k2 with utime := IntKind.u64.wrap (k2.utime + r.utime) } := ⟨_, rfl⟩
  have hM3 : MI v3 w k3 r := by rw [hw3, hk3]; exact (hM2.step { k2 with utime := IntKind.u64.wrap (k2.utime + r.utime) } 5 (by decide) _ (lt19 rfl rfl rfl rfl rfl rfl rfl rfl rfl rfl rfl rfl rfl rfl rfl rfl rfl rfl rfl))
  have HK3 : Hid (k3 = { k2 with utime := IntKind.u64.wrap (k2.utime + r.utime) }) := hk3
  clear hM2 hw3 hk3
  clear c5 f5 s5
  have c6 : v3.cell? ⟨w.heap.size, 6, none⟩ = some (.int .u64 k3.stime) := hM3.mem 6 (by decide)
  have f6 : v3.frozen? ⟨w.heap.size, 6, none⟩ = false := (hM3.row 6 (by decide)).2
  have s6 : v3.cell? ⟨w.heap.size + 1, 6, none⟩ = some (.int .u64 r.stime) := hM3.src 6 (by decide)
  go_upto_region 4 with fail
  obtain ⟨v4, hw4⟩ : ∃ v4, v4 = (v3.setCell ⟨w.heap.size, 6, none⟩ (.int .u64 (IntKind.u64.wrap (k3.stime + r.stime)))) := ⟨_, rfl⟩
  rw [← hw4]
  obtain ⟨k4, hk4⟩ : ∃ k4 : Rc, k4 = { k3 with stime := IntKind.u64.wrap (k3.stime + r.stime) } := ⟨_, rfl⟩
  have hM4 : MI v4 w k4 r := by rw [hw4, hk4]; exact (hM3.step { k3 with stime := IntKind.u64.wrap (k3.stime + r.stime) } 6 (by decide) _ (lt19 rfl rfl rfl rfl rfl rfl rfl rfl rfl rfl rfl rfl rfl rfl rfl rfl rfl rfl rfl))
  have HK4 : Hid (k4 = { k3 with stime := IntKind.u64.wrap (k3.stime + r.stime) }) := hk4
  clear hM3 hw4 hk4
  clear c6 f6 s6
  have c17 : v4.cell? ⟨w.heap.size, 17, none⟩ = some (.float .f64 k4.cpu) := hM4.mem 17 (by decide)
  have f17 : v4.frozen? ⟨w.heap.size, 17, none⟩ = false := (hM4.row 17 (by decide)).2
  have s17 : v4.cell? ⟨w.heap.size + 1, 17, none⟩ = some (.float .f64 r.cpu) := hM4.src 17 (by decide)
  have hst : ∀ (W : World) (z : Nat), W.cell? ⟨w.heap.size, 17, none⟩ = some (.float .f64 k4.cpu) → W.frozen? ⟨w.heap.size, 17, none⟩ = false → (store ⟨w.heap.size, 17, none⟩ (.float .f64 z)).run Try.prog W = .ok () (W.setCell ⟨w.heap.size, 17, none⟩ (.float .f64 z)) := by
    intro W z h1 h2
    rw [run_store _ _ _ _ _ rfl, h1]
    simp [h2]
  cases hfa : FloatKind.f64.format.add k4.cpu r.cpu with
  | some z =>
    have hrun := fun W : World => run_float_arith (P := Try.prog) W .add 32 .f64 k4.cpu r.cpu z hfa
    have HF : Hid (FAdd k4.cpu r.cpu z) := Or.inl hfa
    go_upto_region 5 with fail
    obtain ⟨v5, hw5⟩ : ∃ v5, v5 = (v4.setCell ⟨w.heap.size, 17, none⟩ (.float .f64 z)) := ⟨_, rfl⟩
    rw [← hw5]
    obtain ⟨k5, hk5⟩ : ∃ k5 : Rc, k5 = { k4 with cpu := z } := ⟨_, rfl⟩
    have hM5 : MI v5 w k5 r := by rw [hw5, hk5]; exact (hM4.step { k4 with cpu := z } 17 (by decide) _ (lt19 rfl rfl rfl rfl rfl rfl rfl rfl rfl rfl rfl rfl rfl rfl rfl rfl rfl rfl rfl))
    have HK5 : Hid (k5 = { k4 with cpu := z }) := hk5
    clear hM4 hw5 hk5
    clear c17 f17 s17 hst hrun hfa
    have c10 : v5.cell? ⟨w.heap.size, 10, none⟩ = some (.int .u64 k5.vmsize) := hM5.mem 10 (by decide)
    have f10 : v5.frozen? ⟨w.heap.size, 10, none⟩ = false := (hM5.row 10 (by decide)).2
    have s10 : v5.cell? ⟨w.heap.size + 1, 10, none⟩ = some (.int .u64 r.vmsize) := hM5.src 10 (by decide)
    go_upto_region 6 with fail
    obtain ⟨v6, hw6⟩ : ∃ v6, v6 = (v5.setCell ⟨w.heap.size, 10, none⟩ (.int .u64 (IntKind.u64.wrap (k5.vmsize + r.vmsize)))) := ⟨_, rfl⟩
    rw [← hw6]
    obtain ⟨k6, hk6⟩ : ∃ k6 : Rc, k6 = { k5 with vmsize := IntKind.u64.wrap (k5.vmsize + r.vmsize) } := ⟨_, rfl⟩
    have hM6 : MI v6 w k6 r := by rw [hw6, hk6]; exact (hM5.step { k5 with vmsize := IntKind.u64.wrap (k5.vmsize + r.vmsize) } 10 (by decide) _ (lt19 rfl rfl rfl rfl rfl rfl rfl rfl rfl rfl rfl rfl rfl rfl rfl rfl rfl rfl rfl))
    have HK6 : Hid (k6 = { k5 with vmsize := IntKind.u64.wrap (k5.vmsize + r.vmsize) }) := hk6
    clear hM5 hw6 hk6
    clear c10 f10 s10
    have c11 : v6.cell? ⟨w.heap.size, 11, none⟩ = some (.int .u64 k6.vmrss) := hM6.mem 11 (by decide)
    have f11 : v6.frozen? ⟨w.heap.size, 11, none⟩ = false := (hM6.row 11 (by decide)).2
    have s11 : v6.cell? ⟨w.heap.size + 1, 11, none⟩ = some (.int .u64 r.vmrss) := hM6.src 11 (by decide)
    go_upto_region 7 with fail
    obtain ⟨v7, hw7⟩ : ∃ v7, v7 = (v6.setCell ⟨w.heap.size, 11, none⟩ (.int .u64 (IntKind.u64.wrap (k6.vmrss + r.vmrss)))) := ⟨_, rfl⟩
    rw [← hw7]
    obtain ⟨k7, hk7⟩ : ∃ k7 : Rc, k7 = { k6 with vmrss := IntKind.u64.wrap (k6.vmrss + r.vmrss) } := ⟨_, rfl⟩
    have hM7 : MI v7 w k7 r := by rw [hw7, hk7]; exact (hM6.step { k6 with vmrss := IntKind.u64.wrap (k6.vmrss + r.vmrss) } 11 (by decide) _ (lt19 rfl rfl rfl rfl rfl rfl rfl rfl rfl rfl rfl rfl rfl rfl rfl rfl rfl rfl rfl))
    have HK7 : Hid (k7 = { k6 with vmrss := IntKind.u64.wrap (k6.vmrss + r.vmrss) }) := hk7
    clear hM6 hw7 hk7
    clear c11 f11 s11
    have c12 : v7.cell? ⟨w.heap.size, 12, none⟩ = some (.int .u64 k7.anon) := hM7.mem 12 (by decide)
    have f12 : v7.frozen? ⟨w.heap.size, 12, none⟩ = false := (hM7.row 12 (by decide)).2
    have s12 : v7.cell? ⟨w.heap.size + 1, 12, none⟩ = some (.int .u64 r.anon) := hM7.src 12 (by decide)
    go_upto_region 8 with fail
    obtain ⟨v8, hw8⟩ : ∃ v8, v8 = (v7.setCell ⟨w.heap.size, 12, none⟩ (.int .u64 (IntKind.u64.wrap (k7.anon + r.anon)))) := ⟨_, rfl⟩
    rw [← hw8]
    obtain ⟨k8, hk8⟩ : ∃ k8 : Rc, k8 = { k7 with anon := IntKind.u64.wrap (k7.anon + r.anon) } := ⟨_, rfl⟩
    have hM8 : MI v8 w k8 r := by rw [hw8, hk8]; exact (hM7.step { k7 with anon := IntKind.u64.wrap (k7.anon + r.anon) } 12 (by decide) _ (lt19 rfl rfl rfl rfl rfl rfl rfl rfl rfl rfl rfl rfl rfl rfl rfl rfl rfl rfl rfl))
    have HK8 : Hid (k8 = { k7 with anon := IntKind.u64.wrap (k7.anon + r.anon) }) := hk8
    clear hM7 hw8 hk8
    clear c12 f12 s12
    have c13 : v8.cell? ⟨w.heap.size, 13, none⟩ = some (.int .u64 k8.threads) := hM8.mem 13 (by decide)
    have f13 : v8.frozen? ⟨w.heap.size, 13, none⟩ = false := (hM8.row 13 (by decide)).2
    have s13 : v8.cell? ⟨w.heap.size + 1, 13, none⟩ = some (.int .u64 r.threads) := hM8.src 13 (by decide)
    go_upto_region 9 with fail
    obtain ⟨v9, hw9⟩ : ∃ v9, v9 = (v8.setCell ⟨w.heap.size, 13, none⟩ (.int .u64 (IntKind.u64.wrap (k8.threads + r.threads)))) := ⟨_, rfl⟩
    rw [← hw9]
    obtain ⟨k9, hk9⟩ : ∃ k9 : Rc, k9 = { k8 with threads := IntKind.u64.wrap (k8.threads + r.threads) } := ⟨_, rfl⟩
    have hM9 : MI v9 w k9 r := by rw [hw9, hk9]; exact (hM8.step { k8 with threads := IntKind.u64.wrap (k8.threads + r.threads) } 13 (by decide) _ (lt19 rfl rfl rfl rfl rfl rfl rfl rfl rfl rfl rfl rfl rfl rfl rfl rfl rfl rfl rfl))
    have HK9 : Hid (k9 = { k8 with threads := IntKind.u64.wrap (k8.threads + r.threads) }) := hk9
    clear hM8 hw9 hk9
    clear c13 f13 s13
    go_wp2_with (first
      | ((with_reducible refine wpList_load_rec rfl _ _ rfl w.heap.size 0 ?_ k9 hM9.mem isRow36 ?_); rfl)
      | ((with_reducible refine wpList_store_rec rfl _ _ _ rfl (w.heap.size + 2) 0 k9 ?_ ?_ hM9.dst isRow36 ?_); rfl; rfl; intro w5 h5 _ _ hg5 _))
    have e : k9 = mrg cur r z := by rw [HK9.out, HK8.out, HK7.out, HK6.out, HK5.out, HK4.out, HK3.out, HK2.out, HK1.out]; rfl
    have e4 : k4.cpu = cur.cpu := by rw [HK4.out, HK3.out, HK2.out, HK1.out]
    refine bodyPost_ret (results_cell_rec36 rfl _ _ (w.heap.size + 2) k9 rfl h5) rfl ⟨z, by rw [e], by rw [← e4]; exact HF.out, grownBy_new hM9.grown hg5 (fun q hq => by cases hq; omega)⟩
  | none =>
    have hrun : ∀ W : World, (binOp .add 32 (.float .f64 k4.cpu) (.float .f64 r.cpu)).run Try.prog W = .ok (.float .f64 (Question.cut (.nanBits .f64 k4.cpu r.cpu) (W.tape W.drawn (.nanBits .f64 k4.cpu r.cpu)))) W.drew := by
      intro W
      simp [binOp, Op.floatArith, hfa, Question.forced]
    go_upto_region 5 with fail
    obtain ⟨z, hz⟩ : ∃ z, z = (Question.nanBits FloatKind.f64 k4.cpu r.cpu).cut (v4.tape v4.drawn (Question.nanBits FloatKind.f64 k4.cpu r.cpu)) := ⟨_, rfl⟩
    rw [← hz]
    have HF : Hid (FAdd k4.cpu r.cpu z) := Or.inr ⟨hfa, _, hz⟩
    clear hz
    obtain ⟨v5, hw5⟩ : ∃ v5, v5 = (v4.setCell ⟨w.heap.size, 17, none⟩ (.float .f64 z)).drew := ⟨_, rfl⟩
    rw [← hw5]
    obtain ⟨k5, hk5⟩ : ∃ k5 : Rc, k5 = { k4 with cpu := z } := ⟨_, rfl⟩
    have hM5 : MI v5 w k5 r := by rw [hw5, hk5]; exact (hM4.step { k4 with cpu := z } 17 (by decide) _ (lt19 rfl rfl rfl rfl rfl rfl rfl rfl rfl rfl rfl rfl rfl rfl rfl rfl rfl rfl rfl)).drew
    have HK5 : Hid (k5 = { k4 with cpu := z }) := hk5
    clear hM4 hw5 hk5
    clear c17 f17 s17 hst hrun hfa
    have c10 : v5.cell? ⟨w.heap.size, 10, none⟩ = some (.int .u64 k5.vmsize) := hM5.mem 10 (by decide)
    have f10 : v5.frozen? ⟨w.heap.size, 10, none⟩ = false := (hM5.row 10 (by decide)).2
    have s10 : v5.cell? ⟨w.heap.size + 1, 10, none⟩ = some (.int .u64 r.vmsize) := hM5.src 10 (by decide)
    go_upto_region 6 with fail
    obtain ⟨v6, hw6⟩ : ∃ v6, v6 = (v5.setCell ⟨w.heap.size, 10, none⟩ (.int .u64 (IntKind.u64.wrap (k5.vmsize + r.vmsize)))) := ⟨_, rfl⟩
    rw [← hw6]
    obtain ⟨k6, hk6⟩ : ∃ k6 : Rc, k6 = { k5 with vmsize := IntKind.u64.wrap (k5.vmsize + r.vmsize) } := ⟨_, rfl⟩
    have hM6 : MI v6 w k6 r := by rw [hw6, hk6]; exact (hM5.step { k5 with vmsize := IntKind.u64.wrap (k5.vmsize + r.vmsize) } 10 (by decide) _ (lt19 rfl rfl rfl rfl rfl rfl rfl rfl rfl rfl rfl rfl rfl rfl rfl rfl rfl rfl rfl))
    have HK6 : Hid (k6 = { k5 with vmsize := IntKind.u64.wrap (k5.vmsize + r.vmsize) }) := hk6
    clear hM5 hw6 hk6
    clear c10 f10 s10
    have c11 : v6.cell? ⟨w.heap.size, 11, none⟩ = some (.int .u64 k6.vmrss) := hM6.mem 11 (by decide)
    have f11 : v6.frozen? ⟨w.heap.size, 11, none⟩ = false := (hM6.row 11 (by decide)).2
    have s11 : v6.cell? ⟨w.heap.size + 1, 11, none⟩ = some (.int .u64 r.vmrss) := hM6.src 11 (by decide)
    go_upto_region 7 with fail
    obtain ⟨v7, hw7⟩ : ∃ v7, v7 = (v6.setCell ⟨w.heap.size, 11, none⟩ (.int .u64 (IntKind.u64.wrap (k6.vmrss + r.vmrss)))) := ⟨_, rfl⟩
    rw [← hw7]
    obtain ⟨k7, hk7⟩ : ∃ k7 : Rc, k7 = { k6 with vmrss := IntKind.u64.wrap (k6.vmrss + r.vmrss) } := ⟨_, rfl⟩
    have hM7 : MI v7 w k7 r := by rw [hw7, hk7]; exact (hM6.step { k6 with vmrss := IntKind.u64.wrap (k6.vmrss + r.vmrss) } 11 (by decide) _ (lt19 rfl rfl rfl rfl rfl rfl rfl rfl rfl rfl rfl rfl rfl rfl rfl rfl rfl rfl rfl))
    have HK7 : Hid (k7 = { k6 with vmrss := IntKind.u64.wrap (k6.vmrss + r.vmrss) }) := hk7
    clear hM6 hw7 hk7
    clear c11 f11 s11
    have c12 : v7.cell? ⟨w.heap.size, 12, none⟩ = some (.int .u64 k7.anon) := hM7.mem 12 (by decide)
    have f12 : v7.frozen? ⟨w.heap.size, 12, none⟩ = false := (hM7.row 12 (by decide)).2
    have s12 : v7.cell? ⟨w.heap.size + 1, 12, none⟩ = some (.int .u64 r.anon) := hM7.src 12 (by decide)
    go_upto_region 8 with fail
    obtain ⟨v8, hw8⟩ : ∃ v8, v8 = (v7.setCell ⟨w.heap.size, 12, none⟩ (.int .u64 (IntKind.u64.wrap (k7.anon + r.anon)))) := ⟨_, rfl⟩
    rw [← hw8]
    obtain ⟨k8, hk8⟩ : ∃ k8 : Rc, k8 = { k7 with anon := IntKind.u64.wrap (k7.anon + r.anon) } := ⟨_, rfl⟩
    have hM8 : MI v8 w k8 r := by rw [hw8, hk8]; exact (hM7.step { k7 with anon := IntKind.u64.wrap (k7.anon + r.anon) } 12 (by decide) _ (lt19 rfl rfl rfl rfl rfl rfl rfl rfl rfl rfl rfl rfl rfl rfl rfl rfl rfl rfl rfl))
    have HK8 : Hid (k8 = { k7 with anon := IntKind.u64.wrap (k7.anon + r.anon) }) := hk8
    clear hM7 hw8 hk8
    clear c12 f12 s12
    have c13 : v8.cell? ⟨w.heap.size, 13, none⟩ = some (.int .u64 k8.threads) := hM8.mem 13 (by decide)
    have f13 : v8.frozen? ⟨w.heap.size, 13, none⟩ = false := (hM8.row 13 (by decide)).2
    have s13 : v8.cell? ⟨w.heap.size + 1, 13, none⟩ = some (.int .u64 r.threads) := hM8.src 13 (by decide)
    go_upto_region 9 with fail
    obtain ⟨v9, hw9⟩ : ∃ v9, v9 = (v8.setCell ⟨w.heap.size, 13, none⟩ (.int .u64 (IntKind.u64.wrap (k8.threads + r.threads)))) := ⟨_, rfl⟩
    rw [← hw9]
    obtain ⟨k9, hk9⟩ : ∃ k9 : Rc, k9 = { k8 with threads := IntKind.u64.wrap (k8.threads + r.threads) } := ⟨_, rfl⟩
    have hM9 : MI v9 w k9 r := by rw [hw9, hk9]; exact (hM8.step { k8 with threads := IntKind.u64.wrap (k8.threads + r.threads) } 13 (by decide) _ (lt19 rfl rfl rfl rfl rfl rfl rfl rfl rfl rfl rfl rfl rfl rfl rfl rfl rfl rfl rfl))
    have HK9 : Hid (k9 = { k8 with threads := IntKind.u64.wrap (k8.threads + r.threads) }) := hk9
    clear hM8 hw9 hk9
    clear c13 f13 s13
    go_wp2_with (first
      | ((with_reducible refine wpList_load_rec rfl _ _ rfl w.heap.size 0 ?_ k9 hM9.mem isRow36 ?_); rfl)
      | ((with_reducible refine wpList_store_rec rfl _ _ _ rfl (w.heap.size + 2) 0 k9 ?_ ?_ hM9.dst isRow36 ?_); rfl; rfl; intro w5 h5 _ _ hg5 _))
    have e : k9 = mrg cur r z := by rw [HK9.out, HK8.out, HK7.out, HK6.out, HK5.out, HK4.out, HK3.out, HK2.out, HK1.out]; rfl
    have e4 : k4.cpu = cur.cpu := by rw [HK4.out, HK3.out, HK2.out, HK1.out]
    refine bodyPost_ret (results_cell_rec36 rfl _ _ (w.heap.size + 2) k9 rfl h5) rfl ⟨z, by rw [e], by rw [← e4]; exact HF.out, grownBy_new hM9.grown hg5 (fun q hq => by cases hq; omega)⟩
end Go.Proofs.Qxb6604053a
