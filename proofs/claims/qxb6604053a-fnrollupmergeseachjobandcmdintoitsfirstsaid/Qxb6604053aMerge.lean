import Derived.Test.Qxb6604053aTo
import Derived.BigRegion
import Derived.RegionTactic
import Derived.ChangeAlike
namespace Go.Proofs.Qxb6604053a
open Go.RowKit

/-- merge's memory: the receiver's record is cur; the other record lies in a block of its own. -/
structure MS (W w : World) (B o : Nat) (cur r : Rc) : Prop where
  mem : RecAt W B o cur
  src : RecAt W w.heap.size 0 r
  out : ∀ o', (o' < o ∨ o + 19 ≤ o') → W.cell? ⟨B, o', none⟩ = w.cell? ⟨B, o', none⟩
  froz : ∀ j, W.frozen? ⟨B, j, none⟩ = w.frozen? ⟨B, j, none⟩
  grown : w.grownBy W (some B)
  ne : B < w.heap.size
theorem MS.step {W w : World} {B o : Nat} {cur r : Rc} (h : MS W w B o cur r) (cur' : Rc) (c : Nat) (hc : c < 19) (v : Value) (e : ∀ j, j < 19 → cur'.cell j = if j = c then v else cur.cell j) :
    MS (W.setCell ⟨B, o + c, none⟩ v) w B o cur' r := by
  refine ⟨fun j hj => ?_, fun j hj => ?_, fun o' ho' => ?_, fun j => ?_, ?_, h.ne⟩
  · rw [e j hj]
    by_cases ej : j = c
    · subst ej
      rw [if_pos rfl, World.cell?_setCell_same _ _ _ (h.mem j hj)]
    · rw [if_neg ej, World.cell?_setCell_other _ _ _ _ (fun e' => by injection e' with _ e2; omega)]
      exact h.mem j hj
  · rw [World.cell?_setCell_other _ _ _ _ (fun e' => by injection e' with e1 _; have := h.ne; omega)]
    exact h.src j hj
  · rw [World.cell?_setCell_other _ _ _ _ (fun e' => by injection e' with _ e2; omega)]
    exact h.out o' ho'
  · rw [World.frozen?_setCell]; exact h.froz j
  · have h2 : W.grownBy (W.setCell ⟨B, o + c, none⟩ v) (some B) := grownBy_setCell W ⟨B, o + c, none⟩ v
    exact grownBy_trans h.grown h2
theorem MS.drew {W w : World} {B o : Nat} {cur r : Rc} (h : MS W w B o cur r) : MS W.drew w B o cur r := ⟨h.mem, h.src, h.out, h.froz, grownBy_drew h.grown, h.ne⟩
/-- What a float's sum may be: its bits, or some NaN. -/
def isNaN (x : Nat) : Prop := ∃ t : Nat, x = (t % 2) * 2 ^ 63 + 0x7ff0000000000000 + 1 + (t / 2) % (2 ^ 52 - 1)
def FAdd (x y z : Nat) : Prop := FloatKind.f64.format.add x y = some z ∨ FloatKind.f64.format.add x y = none ∧ isNaN z
/-- What merge makes of a and b: all but the float is a function. -/
def mrg (a b : Rc) (c : Nat) : Rc := { a with rolled := wrap64 (a.rolled + 1), utime := IntKind.u64.wrap (a.utime + b.utime), stime := IntKind.u64.wrap (a.stime + b.stime), cpu := c, vmsize := IntKind.u64.wrap (a.vmsize + b.vmsize), vmrss := IntKind.u64.wrap (a.vmrss + b.vmrss), anon := IntKind.u64.wrap (a.anon + b.anon), threads := IntKind.u64.wrap (a.threads + b.threads) }

set_option maxRecDepth 100000 in
set_option maxHeartbeats 4000000 in
theorem merge_core (B o : Nat) (cur r : Rc) (w : World) (hw0 : RecAt w B o cur) (hf0 : Hid (∀ c, c < 19 → w.frozen? ⟨B, o + c, none⟩ = false)) :
    Calls Try.prog 19 #[.pointer (some ⟨B, o, none⟩), r.val] w fun e w' => e = .returned (.tuple #[]) ∧ ∃ c, FAdd cur.cpu r.cpu c ∧ RecAt w' B o (mrg cur r c) ∧ (∀ o', (o' < o ∨ o + 19 ≤ o') → w'.cell? ⟨B, o', none⟩ = w.cell? ⟨B, o', none⟩) ∧ (∀ j, w'.frozen? ⟨B, j, none⟩ = w.frozen? ⟨B, j, none⟩) ∧ w.grownBy w' (some B) := by
  go_enter Try.func19, Try.ntmps19
  go_upto_region 1 with (first
    | ((with_reducible refine wpList_box_rec rfl 34 _ rfl r ?_ w.heap.size rfl ?_); rfl; intro w1 hb1 hg1 hs1))
  have hM : MS w1 w B o cur r := by
    have hlt := hw0.lt
    exact ⟨hw0.kept (hg1.block B hlt (by simp)), RecAt.of_row hb1, fun o' _ => World.cell?_of_block (a := ⟨B, o', none⟩) (hg1.block B hlt (by simp)), fun j => World.frozen?_of_block (a := ⟨B, j, none⟩) (hg1.block B hlt (by simp)), ⟨hg1.os, hg1.tape, hg1.output, hg1.size, fun k hk _ => hg1.block k hk (by simp)⟩, hlt⟩
  clear hb1 hg1 hs1 hw0
  have c18 : w1.cell? ⟨B, o + 18, none⟩ = some (.int .i64 cur.rolled) := hM.mem 18 (by decide)
  have f18 : w1.frozen? ⟨B, o + 18, none⟩ = false := (hM.froz _).trans (hf0.out 18 (by decide))
  go_upto_region 2 with fail
  obtain ⟨w2, hw2⟩ : ∃ w2, w2 = (w1.setCell ⟨B, o + 18, none⟩ (.int .i64 (wrap64 (cur.rolled + 1)))) := ⟨_, rfl⟩
  rw [← hw2]
  obtain ⟨k2, hk2⟩ : ∃ k2 : Rc, k2 = { cur with rolled := wrap64 (cur.rolled + 1) } := ⟨_, rfl⟩
  have hM2 : MS w2 w B o k2 r := by rw [hw2, hk2]; exact (hM.step { cur with rolled := wrap64 (cur.rolled + 1) } 18 (by decide) _ (lt19 rfl rfl rfl rfl rfl rfl rfl rfl rfl rfl rfl rfl rfl rfl rfl rfl rfl rfl rfl))
  have HK2 : Hid (k2 = { cur with rolled := wrap64 (cur.rolled + 1) }) := hk2
  clear hM hw2 hk2
  clear c18 f18
  have c5 : w2.cell? ⟨B, o + 5, none⟩ = some (.int .u64 k2.utime) := hM2.mem 5 (by decide)
  have f5 : w2.frozen? ⟨B, o + 5, none⟩ = false := (hM2.froz _).trans (hf0.out 5 (by decide))
  have s5 : w2.cell? ⟨w.heap.size, 5, none⟩ = some (.int .u64 r.utime) := by have := hM2.src 5 (by decide); rwa [Nat.zero_add] at this
  go_region
  go_upto_region 3 with fail
  obtain ⟨w3, hw3⟩ : ∃ w3, w3 = (w2.setCell ⟨B, o + 5, none⟩ (.int .u64 (IntKind.u64.wrap (k2.utime + r.utime)))).drew := ⟨_, rfl⟩
  rw [← hw3]
  obtain ⟨k3, hk3⟩ : ∃ k3 : Rc, k3 = { k2 with utime := IntKind.u64.wrap (k2.utime + r.utime) } := ⟨_, rfl⟩
  have hM3 : MS w3 w B o k3 r := by rw [hw3, hk3]; exact (hM2.step { k2 with utime := IntKind.u64.wrap (k2.utime + r.utime) } 5 (by decide) _ (lt19 rfl rfl rfl rfl rfl rfl rfl rfl rfl rfl rfl rfl rfl rfl rfl rfl rfl rfl rfl)).drew
  have HK3 : Hid (k3 = { k2 with utime := IntKind.u64.wrap (k2.utime + r.utime) }) := hk3
  clear hM2 hw3 hk3
  clear c5 f5 s5
  have c6 : w3.cell? ⟨B, o + 6, none⟩ = some (.int .u64 k3.stime) := hM3.mem 6 (by decide)
  have f6 : w3.frozen? ⟨B, o + 6, none⟩ = false := (hM3.froz _).trans (hf0.out 6 (by decide))
  have s6 : w3.cell? ⟨w.heap.size, 6, none⟩ = some (.int .u64 r.stime) := by have := hM3.src 6 (by decide); rwa [Nat.zero_add] at this
  go_region
  go_upto_region 4 with fail
  obtain ⟨w4, hw4⟩ : ∃ w4, w4 = (w3.setCell ⟨B, o + 6, none⟩ (.int .u64 (IntKind.u64.wrap (k3.stime + r.stime)))).drew := ⟨_, rfl⟩
  rw [← hw4]
  obtain ⟨k4, hk4⟩ : ∃ k4 : Rc, k4 = { k3 with stime := IntKind.u64.wrap (k3.stime + r.stime) } := ⟨_, rfl⟩
  have hM4 : MS w4 w B o k4 r := by rw [hw4, hk4]; exact (hM3.step { k3 with stime := IntKind.u64.wrap (k3.stime + r.stime) } 6 (by decide) _ (lt19 rfl rfl rfl rfl rfl rfl rfl rfl rfl rfl rfl rfl rfl rfl rfl rfl rfl rfl rfl)).drew
  have HK4 : Hid (k4 = { k3 with stime := IntKind.u64.wrap (k3.stime + r.stime) }) := hk4
  clear hM3 hw4 hk4
  clear c6 f6 s6
  have c17 : w4.cell? ⟨B, o + 17, none⟩ = some (.float .f64 k4.cpu) := hM4.mem 17 (by decide)
  have f17 : w4.frozen? ⟨B, o + 17, none⟩ = false := (hM4.froz _).trans (hf0.out 17 (by decide))
  have s17 : w4.cell? ⟨w.heap.size, 17, none⟩ = some (.float .f64 r.cpu) := by have := hM4.src 17 (by decide); rwa [Nat.zero_add] at this
  have hst : ∀ (W : World) (z : Nat), W.cell? ⟨B, o + 17, none⟩ = some (.float .f64 k4.cpu) → W.frozen? ⟨B, o + 17, none⟩ = false → (store ⟨B, o + 17, none⟩ (.float .f64 z)).run Try.prog W = .ok () (W.setCell ⟨B, o + 17, none⟩ (.float .f64 z)) := by
    intro W z h1 h2
    rw [run_store _ _ _ _ _ rfl, h1]
    simp [h2]
  cases hfa : FloatKind.f64.format.add k4.cpu r.cpu with
  | some z =>
    have hrun := fun W : World => run_float_arith (P := Try.prog) W .add 32 .f64 k4.cpu r.cpu z hfa
    have HF : Hid (FAdd k4.cpu r.cpu z) := Or.inl hfa
    go_region
    go_upto_region 5 with fail
    obtain ⟨w5, hw5⟩ : ∃ w5, w5 = (w4.setCell ⟨B, o + 17, none⟩ (.float .f64 z)).drew := ⟨_, rfl⟩
    rw [← hw5]
    obtain ⟨k5, hk5⟩ : ∃ k5 : Rc, k5 = { k4 with cpu := z } := ⟨_, rfl⟩
    have hM5 : MS w5 w B o k5 r := by rw [hw5, hk5]; exact (hM4.step { k4 with cpu := z } 17 (by decide) _ (lt19 rfl rfl rfl rfl rfl rfl rfl rfl rfl rfl rfl rfl rfl rfl rfl rfl rfl rfl rfl)).drew
    have HK5 : Hid (k5 = { k4 with cpu := z }) := hk5
    clear hM4 hw5 hk5
    clear c17 f17 s17 hst hrun hfa
    have c10 : w5.cell? ⟨B, o + 10, none⟩ = some (.int .u64 k5.vmsize) := hM5.mem 10 (by decide)
    have f10 : w5.frozen? ⟨B, o + 10, none⟩ = false := (hM5.froz _).trans (hf0.out 10 (by decide))
    have s10 : w5.cell? ⟨w.heap.size, 10, none⟩ = some (.int .u64 r.vmsize) := by have := hM5.src 10 (by decide); rwa [Nat.zero_add] at this
    go_region
    go_upto_region 6 with fail
    obtain ⟨w6, hw6⟩ : ∃ w6, w6 = (w5.setCell ⟨B, o + 10, none⟩ (.int .u64 (IntKind.u64.wrap (k5.vmsize + r.vmsize)))).drew := ⟨_, rfl⟩
    rw [← hw6]
    obtain ⟨k6, hk6⟩ : ∃ k6 : Rc, k6 = { k5 with vmsize := IntKind.u64.wrap (k5.vmsize + r.vmsize) } := ⟨_, rfl⟩
    have hM6 : MS w6 w B o k6 r := by rw [hw6, hk6]; exact (hM5.step { k5 with vmsize := IntKind.u64.wrap (k5.vmsize + r.vmsize) } 10 (by decide) _ (lt19 rfl rfl rfl rfl rfl rfl rfl rfl rfl rfl rfl rfl rfl rfl rfl rfl rfl rfl rfl)).drew
    have HK6 : Hid (k6 = { k5 with vmsize := IntKind.u64.wrap (k5.vmsize + r.vmsize) }) := hk6
    clear hM5 hw6 hk6
    clear c10 f10 s10
    have c11 : w6.cell? ⟨B, o + 11, none⟩ = some (.int .u64 k6.vmrss) := hM6.mem 11 (by decide)
    have f11 : w6.frozen? ⟨B, o + 11, none⟩ = false := (hM6.froz _).trans (hf0.out 11 (by decide))
    have s11 : w6.cell? ⟨w.heap.size, 11, none⟩ = some (.int .u64 r.vmrss) := by have := hM6.src 11 (by decide); rwa [Nat.zero_add] at this
    go_region
    go_upto_region 7 with fail
    obtain ⟨w7, hw7⟩ : ∃ w7, w7 = (w6.setCell ⟨B, o + 11, none⟩ (.int .u64 (IntKind.u64.wrap (k6.vmrss + r.vmrss)))).drew := ⟨_, rfl⟩
    rw [← hw7]
    obtain ⟨k7, hk7⟩ : ∃ k7 : Rc, k7 = { k6 with vmrss := IntKind.u64.wrap (k6.vmrss + r.vmrss) } := ⟨_, rfl⟩
    have hM7 : MS w7 w B o k7 r := by rw [hw7, hk7]; exact (hM6.step { k6 with vmrss := IntKind.u64.wrap (k6.vmrss + r.vmrss) } 11 (by decide) _ (lt19 rfl rfl rfl rfl rfl rfl rfl rfl rfl rfl rfl rfl rfl rfl rfl rfl rfl rfl rfl)).drew
    have HK7 : Hid (k7 = { k6 with vmrss := IntKind.u64.wrap (k6.vmrss + r.vmrss) }) := hk7
    clear hM6 hw7 hk7
    clear c11 f11 s11
    have c12 : w7.cell? ⟨B, o + 12, none⟩ = some (.int .u64 k7.anon) := hM7.mem 12 (by decide)
    have f12 : w7.frozen? ⟨B, o + 12, none⟩ = false := (hM7.froz _).trans (hf0.out 12 (by decide))
    have s12 : w7.cell? ⟨w.heap.size, 12, none⟩ = some (.int .u64 r.anon) := by have := hM7.src 12 (by decide); rwa [Nat.zero_add] at this
    go_region
    go_upto_region 8 with fail
    obtain ⟨w8, hw8⟩ : ∃ w8, w8 = (w7.setCell ⟨B, o + 12, none⟩ (.int .u64 (IntKind.u64.wrap (k7.anon + r.anon)))).drew := ⟨_, rfl⟩
    rw [← hw8]
    obtain ⟨k8, hk8⟩ : ∃ k8 : Rc, k8 = { k7 with anon := IntKind.u64.wrap (k7.anon + r.anon) } := ⟨_, rfl⟩
    have hM8 : MS w8 w B o k8 r := by rw [hw8, hk8]; exact (hM7.step { k7 with anon := IntKind.u64.wrap (k7.anon + r.anon) } 12 (by decide) _ (lt19 rfl rfl rfl rfl rfl rfl rfl rfl rfl rfl rfl rfl rfl rfl rfl rfl rfl rfl rfl)).drew
    have HK8 : Hid (k8 = { k7 with anon := IntKind.u64.wrap (k7.anon + r.anon) }) := hk8
    clear hM7 hw8 hk8
    clear c12 f12 s12
    have c13 : w8.cell? ⟨B, o + 13, none⟩ = some (.int .u64 k8.threads) := hM8.mem 13 (by decide)
    have f13 : w8.frozen? ⟨B, o + 13, none⟩ = false := (hM8.froz _).trans (hf0.out 13 (by decide))
    have s13 : w8.cell? ⟨w.heap.size, 13, none⟩ = some (.int .u64 r.threads) := by have := hM8.src 13 (by decide); rwa [Nat.zero_add] at this
    go_region
    go_wp2
    obtain ⟨w9, hw9⟩ : ∃ w9, w9 = (w8.setCell ⟨B, o + 13, none⟩ (.int .u64 (IntKind.u64.wrap (k8.threads + r.threads)))).drew := ⟨_, rfl⟩
    rw [← hw9]
    obtain ⟨k9, hk9⟩ : ∃ k9 : Rc, k9 = { k8 with threads := IntKind.u64.wrap (k8.threads + r.threads) } := ⟨_, rfl⟩
    have hM9 : MS w9 w B o k9 r := by rw [hw9, hk9]; exact (hM8.step { k8 with threads := IntKind.u64.wrap (k8.threads + r.threads) } 13 (by decide) _ (lt19 rfl rfl rfl rfl rfl rfl rfl rfl rfl rfl rfl rfl rfl rfl rfl rfl rfl rfl rfl)).drew
    have HK9 : Hid (k9 = { k8 with threads := IntKind.u64.wrap (k8.threads + r.threads) }) := hk9
    clear hM8 hw9 hk9
    clear c13 f13 s13
    go_end0
    have e : k9 = mrg cur r z := by rw [HK9.out, HK8.out, HK7.out, HK6.out, HK5.out, HK4.out, HK3.out, HK2.out]; rfl
    rw [e] at hM9
    have e4 : k4.cpu = cur.cpu := by rw [HK4.out, HK3.out, HK2.out]
    exact ⟨rfl, z, by rw [← e4]; exact HF.out, hM9.mem, hM9.out, hM9.froz, hM9.grown⟩
  | none =>
    have hrun : ∀ W : World, (binOp .add 32 (.float .f64 k4.cpu) (.float .f64 r.cpu)).run Try.prog W = .ok (.float .f64 (Question.cut (.nanBits .f64 k4.cpu r.cpu) (W.tape W.drawn (.nanBits .f64 k4.cpu r.cpu)))) W.drew := by
      intro W
      simp [binOp, Op.floatArith, hfa, Question.forced]
    go_region
    go_upto_region 5 with fail
    obtain ⟨z, hz⟩ : ∃ z, z = (Question.nanBits FloatKind.f64 k4.cpu r.cpu).cut (w4.tape (w4.drawn + 1) (Question.nanBits FloatKind.f64 k4.cpu r.cpu)) := ⟨_, rfl⟩
    rw [← hz]
    have HF : Hid (FAdd k4.cpu r.cpu z) := Or.inr ⟨hfa, _, hz⟩
    clear hz
    obtain ⟨w5, hw5⟩ : ∃ w5, w5 = (w4.setCell ⟨B, o + 17, none⟩ (.float .f64 z)).drew.drew := ⟨_, rfl⟩
    rw [← hw5]
    obtain ⟨k5, hk5⟩ : ∃ k5 : Rc, k5 = { k4 with cpu := z } := ⟨_, rfl⟩
    have hM5 : MS w5 w B o k5 r := by rw [hw5, hk5]; exact (hM4.step { k4 with cpu := z } 17 (by decide) _ (lt19 rfl rfl rfl rfl rfl rfl rfl rfl rfl rfl rfl rfl rfl rfl rfl rfl rfl rfl rfl)).drew.drew
    have HK5 : Hid (k5 = { k4 with cpu := z }) := hk5
    clear hM4 hw5 hk5
    clear c17 f17 s17 hst hrun hfa
    have c10 : w5.cell? ⟨B, o + 10, none⟩ = some (.int .u64 k5.vmsize) := hM5.mem 10 (by decide)
    have f10 : w5.frozen? ⟨B, o + 10, none⟩ = false := (hM5.froz _).trans (hf0.out 10 (by decide))
    have s10 : w5.cell? ⟨w.heap.size, 10, none⟩ = some (.int .u64 r.vmsize) := by have := hM5.src 10 (by decide); rwa [Nat.zero_add] at this
    go_region
    go_upto_region 6 with fail
    obtain ⟨w6, hw6⟩ : ∃ w6, w6 = (w5.setCell ⟨B, o + 10, none⟩ (.int .u64 (IntKind.u64.wrap (k5.vmsize + r.vmsize)))).drew := ⟨_, rfl⟩
    rw [← hw6]
    obtain ⟨k6, hk6⟩ : ∃ k6 : Rc, k6 = { k5 with vmsize := IntKind.u64.wrap (k5.vmsize + r.vmsize) } := ⟨_, rfl⟩
    have hM6 : MS w6 w B o k6 r := by rw [hw6, hk6]; exact (hM5.step { k5 with vmsize := IntKind.u64.wrap (k5.vmsize + r.vmsize) } 10 (by decide) _ (lt19 rfl rfl rfl rfl rfl rfl rfl rfl rfl rfl rfl rfl rfl rfl rfl rfl rfl rfl rfl)).drew
    have HK6 : Hid (k6 = { k5 with vmsize := IntKind.u64.wrap (k5.vmsize + r.vmsize) }) := hk6
    clear hM5 hw6 hk6
    clear c10 f10 s10
    have c11 : w6.cell? ⟨B, o + 11, none⟩ = some (.int .u64 k6.vmrss) := hM6.mem 11 (by decide)
    have f11 : w6.frozen? ⟨B, o + 11, none⟩ = false := (hM6.froz _).trans (hf0.out 11 (by decide))
    have s11 : w6.cell? ⟨w.heap.size, 11, none⟩ = some (.int .u64 r.vmrss) := by have := hM6.src 11 (by decide); rwa [Nat.zero_add] at this
    go_region
    go_upto_region 7 with fail
    obtain ⟨w7, hw7⟩ : ∃ w7, w7 = (w6.setCell ⟨B, o + 11, none⟩ (.int .u64 (IntKind.u64.wrap (k6.vmrss + r.vmrss)))).drew := ⟨_, rfl⟩
    rw [← hw7]
    obtain ⟨k7, hk7⟩ : ∃ k7 : Rc, k7 = { k6 with vmrss := IntKind.u64.wrap (k6.vmrss + r.vmrss) } := ⟨_, rfl⟩
    have hM7 : MS w7 w B o k7 r := by rw [hw7, hk7]; exact (hM6.step { k6 with vmrss := IntKind.u64.wrap (k6.vmrss + r.vmrss) } 11 (by decide) _ (lt19 rfl rfl rfl rfl rfl rfl rfl rfl rfl rfl rfl rfl rfl rfl rfl rfl rfl rfl rfl)).drew
    have HK7 : Hid (k7 = { k6 with vmrss := IntKind.u64.wrap (k6.vmrss + r.vmrss) }) := hk7
    clear hM6 hw7 hk7
    clear c11 f11 s11
    have c12 : w7.cell? ⟨B, o + 12, none⟩ = some (.int .u64 k7.anon) := hM7.mem 12 (by decide)
    have f12 : w7.frozen? ⟨B, o + 12, none⟩ = false := (hM7.froz _).trans (hf0.out 12 (by decide))
    have s12 : w7.cell? ⟨w.heap.size, 12, none⟩ = some (.int .u64 r.anon) := by have := hM7.src 12 (by decide); rwa [Nat.zero_add] at this
    go_region
    go_upto_region 8 with fail
    obtain ⟨w8, hw8⟩ : ∃ w8, w8 = (w7.setCell ⟨B, o + 12, none⟩ (.int .u64 (IntKind.u64.wrap (k7.anon + r.anon)))).drew := ⟨_, rfl⟩
    rw [← hw8]
    obtain ⟨k8, hk8⟩ : ∃ k8 : Rc, k8 = { k7 with anon := IntKind.u64.wrap (k7.anon + r.anon) } := ⟨_, rfl⟩
    have hM8 : MS w8 w B o k8 r := by rw [hw8, hk8]; exact (hM7.step { k7 with anon := IntKind.u64.wrap (k7.anon + r.anon) } 12 (by decide) _ (lt19 rfl rfl rfl rfl rfl rfl rfl rfl rfl rfl rfl rfl rfl rfl rfl rfl rfl rfl rfl)).drew
    have HK8 : Hid (k8 = { k7 with anon := IntKind.u64.wrap (k7.anon + r.anon) }) := hk8
    clear hM7 hw8 hk8
    clear c12 f12 s12
    have c13 : w8.cell? ⟨B, o + 13, none⟩ = some (.int .u64 k8.threads) := hM8.mem 13 (by decide)
    have f13 : w8.frozen? ⟨B, o + 13, none⟩ = false := (hM8.froz _).trans (hf0.out 13 (by decide))
    have s13 : w8.cell? ⟨w.heap.size, 13, none⟩ = some (.int .u64 r.threads) := by have := hM8.src 13 (by decide); rwa [Nat.zero_add] at this
    go_region
    go_wp2
    obtain ⟨w9, hw9⟩ : ∃ w9, w9 = (w8.setCell ⟨B, o + 13, none⟩ (.int .u64 (IntKind.u64.wrap (k8.threads + r.threads)))).drew := ⟨_, rfl⟩
    rw [← hw9]
    obtain ⟨k9, hk9⟩ : ∃ k9 : Rc, k9 = { k8 with threads := IntKind.u64.wrap (k8.threads + r.threads) } := ⟨_, rfl⟩
    have hM9 : MS w9 w B o k9 r := by rw [hw9, hk9]; exact (hM8.step { k8 with threads := IntKind.u64.wrap (k8.threads + r.threads) } 13 (by decide) _ (lt19 rfl rfl rfl rfl rfl rfl rfl rfl rfl rfl rfl rfl rfl rfl rfl rfl rfl rfl rfl)).drew
    have HK9 : Hid (k9 = { k8 with threads := IntKind.u64.wrap (k8.threads + r.threads) }) := hk9
    clear hM8 hw9 hk9
    clear c13 f13 s13
    go_end0
    have e : k9 = mrg cur r z := by rw [HK9.out, HK8.out, HK7.out, HK6.out, HK5.out, HK4.out, HK3.out, HK2.out]; rfl
    rw [e] at hM9
    have e4 : k4.cpu = cur.cpu := by rw [HK4.out, HK3.out, HK2.out]
    exact ⟨rfl, z, by rw [← e4]; exact HF.out, hM9.mem, hM9.out, hM9.froz, hM9.grown⟩
theorem merge19 (B n i : Nat) (R : Nat → Rc) (r : Rc) (w : World) (h : Recs w B n R) (hi : i < n) :
    Calls Try.prog 19 #[.pointer (some ⟨B, i * 19, none⟩), r.val] w fun e w' => e = .returned (.tuple #[]) ∧ ∃ c, FAdd (R i).cpu r.cpu c ∧ Recs w' B n (setAt R i (mrg (R i) r c)) ∧ w.grownBy w' (some B) := by
  refine (merge_core B (i * 19) (R i) r w (h.1 i hi) (fun c hc => (h.there hi c hc).2)).mono ?_
  rintro e w' ⟨he, c, h1, h2, h3, h4, h5⟩
  exact ⟨he, c, h1, h.put h2 h3 h4, h5⟩
end Go.Proofs.Qxb6604053a
