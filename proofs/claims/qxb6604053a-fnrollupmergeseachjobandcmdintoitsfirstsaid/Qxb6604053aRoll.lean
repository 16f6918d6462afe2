import Derived.Test.Qxb6604053aBuild
import Derived.Deep.RegionWith
import Derived.Deep.RegionHeld
namespace Go.Proofs.Qxb6604053a
open Go.RowKit

def Rc.key (r : Rc) : Key := ⟨r.job, r.comm⟩
/-- A record of a job, whose stat was read. -/
def Rc.grp (r : Rc) : Bool := !(r.job == 0) && !(r.state.toList == [])
structure Rc.ok (r : Rc) : Prop where
  job : 0 ≤ r.job ∧ r.job ≤ 18446744073709551615
  comm : r.comm.size ≤ maxLen
theorem Rc.ok.key {r : Rc} (h : r.ok) : r.key.ok := ⟨h.job.1, h.job.2, h.comm⟩
/-- What rollup does with the first k records: m of them are out, as O says; M holds the places of the grouped ones. -/
def Roll (R : Nat → Rc) : Nat → Nat → (Nat → Rc) → (Key → Option Nat) → Prop
  | 0, m, _, M => m = 0 ∧ M = fun _ => none
  | k + 1, m, O, M => ∃ m' O' M', Roll R k m' O' M' ∧
      (((R k).grp = false ∧ m = m' + 1 ∧ O = setAt O' m' (R k) ∧ M = M') ∨
       ((R k).grp = true ∧ M' (R k).key = none ∧ m = m' + 1 ∧ O = setAt O' m' (R k) ∧ M = upd M' (R k).key m') ∨
       ((R k).grp = true ∧ ∃ i c, M' (R k).key = some i ∧ FAdd (O' i).cpu (R k).cpu c ∧ m = m' ∧ O = setAt O' i (mrg (O' i) (R k) c) ∧ M = M'))
theorem Roll.nil {R : Nat → Rc} (O : Nat → Rc) : Roll R 0 0 O (fun _ => none) := ⟨rfl, rfl⟩
theorem Roll.loose {R : Nat → Rc} {k m : Nat} {O : Nat → Rc} {M : Key → Option Nat} (h : Roll R k m O M) (hg : (R k).grp = false) : Roll R (k + 1) (m + 1) (setAt O m (R k)) M :=
  ⟨m, O, M, h, .inl ⟨hg, rfl, rfl, rfl⟩⟩
theorem Roll.first {R : Nat → Rc} {k m : Nat} {O : Nat → Rc} {M : Key → Option Nat} (h : Roll R k m O M) (hg : (R k).grp = true) (hn : M (R k).key = none) : Roll R (k + 1) (m + 1) (setAt O m (R k)) (upd M (R k).key m) :=
  ⟨m, O, M, h, .inr (.inl ⟨hg, hn, rfl, rfl, rfl⟩)⟩
theorem Roll.more {R : Nat → Rc} {k m : Nat} {O : Nat → Rc} {M : Key → Option Nat} (h : Roll R k m O M) (hg : (R k).grp = true) (i c : Nat) (hn : M (R k).key = some i) (hc : FAdd (O i).cpu (R k).cpu c) : Roll R (k + 1) m (setAt O i (mrg (O i) (R k) c)) M :=
  ⟨m, O, M, h, .inr (.inr ⟨hg, i, c, hn, hc, rfl, rfl, rfl⟩)⟩
theorem Roll.ind {R : Nat → Rc} {motive : (k m : Nat) → (O : Nat → Rc) → (M : Key → Option Nat) → Roll R k m O M → Prop}
    (nil : ∀ O, motive 0 0 O (fun _ => none) (Roll.nil O))
    (loose : ∀ {k m : Nat} {O : Nat → Rc} {M : Key → Option Nat} (h : Roll R k m O M) (hg : (R k).grp = false), motive k m O M h → motive (k + 1) (m + 1) (setAt O m (R k)) M (Roll.loose h hg))
    (first : ∀ {k m : Nat} {O : Nat → Rc} {M : Key → Option Nat} (h : Roll R k m O M) (hg : (R k).grp = true) (hn : M (R k).key = none), motive k m O M h → motive (k + 1) (m + 1) (setAt O m (R k)) (upd M (R k).key m) (Roll.first h hg hn))
    (more : ∀ {k m : Nat} {O : Nat → Rc} {M : Key → Option Nat} (h : Roll R k m O M) (hg : (R k).grp = true) (i c : Nat) (hn : M (R k).key = some i) (hc : FAdd (O i).cpu (R k).cpu c), motive k m O M h → motive (k + 1) m (setAt O i (mrg (O i) (R k) c)) M (Roll.more h hg i c hn hc)) :
    ∀ {k m : Nat} {O : Nat → Rc} {M : Key → Option Nat} (h : Roll R k m O M), motive k m O M h := by
  intro k
  induction k with
  | zero =>
    intro m O M h
    obtain ⟨h1, h2⟩ := id h
    subst h1 h2
    exact nil O
  | succ k ih =>
    intro m O M h
    obtain ⟨m', O', M', h', hc⟩ := id h
    rcases hc with ⟨hg, h1, h2, h3⟩ | ⟨hg, hn, h1, h2, h3⟩ | ⟨hg, i, c, hn, hc, h1, h2, h3⟩
    · subst h1 h2 h3
      exact loose h' hg (ih h')
    · subst h1 h2 h3
      exact first h' hg hn (ih h')
    · subst h1 h2 h3
      exact more h' hg i c hn hc (ih h')
theorem Roll.le {R : Nat → Rc} {k m : Nat} {O : Nat → Rc} {M : Key → Option Nat} (h : Roll R k m O M) : m ≤ k := by
  induction h using Roll.ind with
  | nil O => exact Nat.le_refl _
  | loose h hg ih => omega
  | first h hg hn ih => omega
  | more h hg i c hn hc ih => omega
theorem Roll.lt {R : Nat → Rc} {k m : Nat} {O : Nat → Rc} {M : Key → Option Nat} (h : Roll R k m O M) : ∀ {q : Key} {i : Nat}, M q = some i → i < m := by
  induction h using Roll.ind with
  | nil O => intro q i h; cases h
  | loose h hg ih => intro q i h; have := ih h; omega
  | @first k m O M h hg hn ih =>
    intro q i h
    by_cases e : q = (R k).key
    · subst e; rw [upd_same] at h; cases h; omega
    · rw [upd_other e] at h; have := ih h; omega
  | more h hg i c hn hc ih => intro q j h; exact ih h
/-- The block while m records are out: the records that are out, and behind them the input. -/
def mix (O R : Nat → Rc) (m : Nat) : Nat → Rc := fun t => if t < m then O t else R t
theorem mix_push (O R : Nat → Rc) (m : Nat) (r : Rc) : ∀ t, setAt (mix O R m) m r t = mix (setAt O m r) R (m + 1) t := by
  intro t
  unfold setAt mix
  by_cases e : t = m
  · subst e; rw [if_pos rfl, if_pos (by omega)]; exact (if_pos rfl).symm
  · rw [if_neg e]
    by_cases e2 : t < m
    · rw [if_pos e2, if_pos (by omega)]; exact (if_neg e).symm
    · rw [if_neg e2, if_neg (by omega)]
theorem mix_put {O R : Nat → Rc} {m i : Nat} (hi : i < m) (r : Rc) : ∀ t, setAt (mix O R m) i r t = mix (setAt O i r) R m t := by
  intro t
  unfold setAt mix
  by_cases e : t = i
  · subst e; rw [if_pos rfl, if_pos hi]; exact (if_pos rfl).symm
  · rw [if_neg e]
    by_cases e2 : t < m
    · rw [if_pos e2, if_pos e2]; exact (if_neg e).symm
    · rw [if_neg e2, if_neg e2]
theorem mix_ge {O R : Nat → Rc} {m t : Nat} (h : m ≤ t) : mix O R m t = R t := if_neg (by omega)
theorem mix_lt {O R : Nat → Rc} {m t : Nat} (h : t < m) : mix O R m t = O t := if_pos h
theorem grownBy_any {a b : World} (h : a.grownBy b none) (row : Option Nat) : a.grownBy b row := ⟨h.os, h.tape, h.output, h.size, fun k hk _ => h.block k hk (by simp)⟩

/-! ### the key's variable -/
def Key.cells (k : Key) : Array Value := #[.int .u64 k.job, .string k.cmd]
theorem row47 : (Try.prog.info? 47).map (·.size) = some 2 := by kernel_rfl
theorem built_key (k : Key) : Try.prog.built 47 [(0, .int .u64 k.job), (1, .string k.cmd)] = some k.cells := by kernel_rfl
theorem wpList_build_key {ops : Array Oper} {rest : List Oper} {o : Oper} {a : Act} {w : World} {Q : Exit → Act → World → Prop} (hg : o.guard = none) (x y : Operand) (ho : o.op = .build 47 #[(0, x), (1, y)])
    (k : Key) (hx : a.eval x = .int .u64 k.job) (hy : a.eval y = .string k.cmd) (h : wpList Try.prog ops Q rest (a.put o.dst k.val) w) : wpList Try.prog ops Q (o :: rest) a w := by
  have e : (#[((0 : Nat), x), (1, y)].map fun (i, x) => (i, a.eval x)).toList = [(0, .int .u64 k.job), (1, .string k.cmd)] := by simp [hx, hy]
  exact wpList_build hg 47 _ ho (by rw [e, built_key]; rfl) (by rw [e, built_key]; exact h)
theorem wpList_new_key {ops : Array Oper} {rest : List Oper} {o : Oper} {a : Act} {w : World} {Q : Exit → Act → World → Prop} (hg : o.guard = none) (ho : o.op = .alloc 47) (N : Nat) (hN : w.heap.size = N)
    (h : ∀ w', (∃ z, w'.heap[N]? = some (.cells (Key.cells z) 47 (0, 0))) → w.grownBy w' none → w'.heap.size = N + 1 → wpList Try.prog ops Q rest (a.put o.dst (.pointer (some ⟨N, 0, none⟩))) w') : wpList Try.prog ops Q (o :: rest) a w := by
  subst hN
  let z : Key := ⟨0, ⟨#[]⟩⟩
  refine Great.wpList_allocTo hg o.dst rfl (.pointer (some ⟨w.heap.size, 0, none⟩)) (.cells z.cells 47) ?_ (h _ ⟨z, heap_alloc_new _ _⟩ (World.grownBy_alloc _ _ _) (by simp))
  unfold execOp
  simp only [ho]
  kernel_rfl
theorem wpList_store_key {ops : Array Oper} {rest : List Oper} {o : Oper} {a : Act} {w : World} {Q : Exit → Act → World → Prop} (hgd : o.guard = none) (x y : Operand) (ho : o.op = .store 47 x y)
    (g : Nat) (k : Key) (hx : a.eval x = .pointer (some ⟨g, 0, none⟩)) (hy : a.eval y = k.val) (hg : ∃ z, w.heap[g]? = some (.cells (Key.cells z) 47 (0, 0)))
    (h : ∀ w', w'.heap[g]? = some (.cells k.cells 47 (0, 0)) → w.grownBy w' (some g) → w'.heap.size = w.heap.size → wpList Try.prog ops Q rest (a.put o.dst undef) w') : wpList Try.prog ops Q (o :: rest) a w := by
  obtain ⟨z, hg⟩ := hg
  exact wpList_plain hgd fun _ hK => wp_store_row 47 x y ho g k.cells hx hy 47 z.cells hg row47 rfl (by simp [Key.cells, Value.oneCell'])
    (hK _ _ (h _ (setRow_heap w g z.cells k.cells 47 (0, 0) hg) ⟨rfl, rfl, rfl, by simp, fun j hj hne => setRow_other w g j k.cells (fun e => hne (by rw [e]))⟩ (by simp)))
theorem wpList_load_key {ops : Array Oper} {rest : List Oper} {o : Oper} {a : Act} {w : World} {Q : Exit → Act → World → Prop} (hgd : o.guard = none) (x : Operand) (ho : o.op = .load 47 x)
    (g : Nat) (k : Key) (hx : a.eval x = .pointer (some ⟨g, 0, none⟩)) (hg : w.heap[g]? = some (.cells k.cells 47 (0, 0)))
    (h : wpList Try.prog ops Q rest (a.put o.dst k.val) w) : wpList Try.prog ops Q (o :: rest) a w :=
  wpList_load_row hgd 47 x ho g hx 47 k.cells (0, 0) _ hg Try.underlying47 rfl row47 h

set_option maxRecDepth 100000 in
set_option maxHeartbeats 4000000 in
theorem rollup17 (B n : Nat) (R : Nat → Rc) (w : World) (h0 : Recs w B n R) (hB : B < w.heap.size) (hn : n ≤ 1048576) (hok : Hid (∀ i, i < n → (R i).ok)) :
    Calls Try.prog 17 #[.slice (some ⟨B, 0, none⟩) n n] w fun e w' => ∃ m O M, e = .returned (.slice (some ⟨B, 0, none⟩) m n) ∧ Roll R n m O M ∧ Recs w' B n (mix O R m) ∧ w.grownBy w' (some B) := by
  have hmm := @run_makeMap Try.prog
  go_enter Try.func17, Try.ntmps17
  go_wp2
  go_loopw [4, 15] (fun v i wr => ∃ (k m : Nat) (O : Nat → Rc) (M : Key → Option Nat), k ≤ n ∧ i = .int .i64 k ∧ v = .slice (some ⟨B, 0, none⟩) m n ∧ Roll R k m O M ∧ Recs wr B n (mix O R m) ∧ MapIs wr w.heap.size k M ∧ w.grownBy wr (some B) ∧ w.heap.size < wr.heap.size) (fun _ i _ => n - (intOf i).toNat)
  case atStart => exact ⟨0, 0, R, _, Nat.zero_le _, rfl, rfl, Roll.nil R, (h0.kept (Below.heap_alloc w _ B hB)).congr fun t _ => (mix_ge (Nat.zero_le t)).symm, mapIs_made _, World.grownBy_alloc _ _ _, by simp⟩
  case round =>
    clear hmm
    obtain ⟨k, m, O, M, hk, rfl, rfl, hL, hR, hM, hG, hMb⟩ := hrel
    by_cases hlt : k < n
    · have hlt' : (k : Int) < n := by omega
      obtain ⟨r, hr⟩ : ∃ r, r = R k := ⟨_, rfl⟩
      have HRK : Hid (r = R k) := hr
      have hmk := hL.le
      have hck : RecAt wr B (k * 19) r := by have := hR.1 k hlt; rw [mix_ge hmk] at this; rw [hr]; exact this
      have hrok : r.ok := by rw [hr]; exact hok.out k hlt
      have hkey : r.key.ok := hrok.key
      have HOK : Hid r.ok := hrok
      clear hr hrok
      cases hj : (r.job == 0)
      · cases hst : (r.state.toList == [])
        · have HGRP : Hid (r.grp = true) := by show _ = _; unfold Rc.grp; rw [hj, hst]; rfl
          have hB2 : B ≠ w.heap.size := by omega
          cases hq : M r.key with
          | none =>
            have HQ : Hid (M r.key = none) := hq
            clear hq
            have hmax : k < maxLen := by unfold maxLen; omega
            have hm9 : m < 1000000000 := by omega
            go_wp2_with (first
              | ((with_reducible refine wpList_load_rec rfl _ _ rfl B (k * 19) ?_ r hck isRow34 ?_); rfl)
              | ((with_reducible refine wpList_new_rec rfl rfl wr.heap.size rfl ?_); intro w1 hb1 hg1 hs1)
              | ((with_reducible refine wpList_store_rec rfl _ _ _ rfl wr.heap.size 0 r ?_ ?_ ?_ isRow34 ?_); rfl; rfl; (obtain ⟨z, hz⟩ := hb1; exact fun j hj => ⟨by rw [RecAt.of_row hz j hj]; rfl, by rw [Nat.zero_add]; exact (row_of hz).frozen j⟩); intro w2 h2 ho2 hf2 hg2 hs2; have c16 : w2.cell? ⟨wr.heap.size, 16, none⟩ = some (.int .u64 r.job) := h2 16 (by decide); have c2 : w2.cell? ⟨wr.heap.size, 2, none⟩ = some (.string r.state) := h2 2 (by decide); have c1 : w2.cell? ⟨wr.heap.size, 1, none⟩ = some (.string r.comm) := h2 1 (by decide); have hg12 : wr.grownBy w2 none := grownBy_new hg1 hg2 (fun q hq => by cases hq; exact Nat.le_refl _); clear ho2 hf2 hg1 hg2 hb1)
              | ((with_reducible refine wpList_build_key rfl _ _ rfl r.key ?_ ?_ ?_); rfl; rfl)
              | ((with_reducible refine wpList_new_key rfl rfl (wr.heap.size + 1) (by omega) ?_); intro w3 hb3 hg3 hs3)
              | ((with_reducible refine wpList_store_key rfl _ _ rfl (wr.heap.size + 1) r.key ?_ ?_ hb3 ?_); rfl; rfl; intro w4 hb4 hg4 hs4; have hg14 : wr.grownBy w4 none := grownBy_new (grownBy_trans hg12 hg3) hg4 (fun q hq => by cases hq; omega); have h24 : RecAt w4 wr.heap.size 0 r := (h2.kept (hg3.block _ (by omega) (by simp))).kept (hg4.block _ (by omega) (by simp)); have hM4 : MapIs w4 w.heap.size k M := hM.kept hg14 (by simp); have hR4 : Recs w4 B n (mix O R m) := hR.kept (hg14.block B (by omega) (by simp)); clear c16 c2 c1 hb3 hg3 hg4 hg12 h2)
              | ((with_reducible refine wpList_load_key rfl _ rfl (wr.heap.size + 1) r.key ?_ hb4 ?_); rfl)
              | (at_lookup; (with_reducible refine wpList_look_none rfl _ _ rfl w.heap.size k M ?_ hM4 r.key ?_ hkey HQ.out ?_); rfl; rfl; intro c3)
              | (at_mapUpdate; (with_reducible refine wpList_upd rfl _ _ _ rfl w.heap.size k M ?_ hM4 hmax r.key ?_ hkey m ?_ hm9 ?_); rfl; rfl; rfl; intro w5 hM5 hg5; have h25 : RecAt w5 wr.heap.size 0 r := h24.kept (hg5.block _ (by omega) (by simp; omega)); have hR5 : Recs w5 B n (mix O R m) := hR4.kept (hg5.block B (by omega) (by simp; omega)))
              | ((with_reducible refine wpList_load_rec rfl _ _ rfl wr.heap.size 0 ?_ r h25 isRow34 ?_); rfl)
              | ((with_reducible refine wpList_lit_rec rfl _ rfl r ?_ w5.heap.size rfl ?_); rfl; intro w6 hb6 hg6 hs6; have hB5 : B < w5.heap.size := by { have := hg5.size; omega }; have hR6 : Recs w6 B n (mix O R m) := hR5.kept (hg6.block B hB5 (by simp)))
              | (at_builtin; (with_reducible refine wpList_append_rec rfl _ _ rfl B m n w5.heap.size r ?_ ?_ (RecAt.of_row hb6) (hR6.there (by omega)) (by omega) ?_); rfl; rfl; intro w7 h7 ho7 hf7 hg7 hs7))
            go_roundw
            case rel =>
              have hR7 : Recs w7 B n (mix (setAt O m r) R (m + 1)) := (hR6.put h7 (fun o ho => ho7 ⟨B, o, none⟩ (fun _ _ => ho)) (fun j => hf7 _)).congr fun t _ => mix_push O R m r t
              have hL7 : Roll R (k + 1) (m + 1) (setAt O m r) (upd M r.key m) := by have e := HRK.out; rw [e]; exact Roll.first hL (by rw [← e]; exact HGRP.out) (by rw [← e]; exact HQ.out)
              have hM7 : MapIs w7 w.heap.size (k + 1) (upd M r.key m) := (hM5.kept hg6 (by simp)).kept hg7 (by simp; omega)
              have hG7 : w.grownBy w7 (some B) := grownBy_trans (grownBy_trans (grownBy_new (grownBy_trans hG (grownBy_any hg14 _)) hg5 (fun q hq => by cases hq; exact Nat.le_refl _)) (grownBy_any hg6 _)) hg7
              exact ⟨k + 1, m + 1, setAt O m r, _, by omega, by go_num, rfl, hL7, hR7, hM7, hG7, by have := hg5.size; omega⟩
            case measure => simp [intOf]; omega
          | some i =>
            have HQ : Hid (M r.key = some i) := hq
            have him : i < m := hL.lt hq
            have him' : (i : Int) < m := by omega
            clear hq
            go_wp2_with (first
              | ((with_reducible refine wpList_load_rec rfl _ _ rfl B (k * 19) ?_ r hck isRow34 ?_); rfl)
              | ((with_reducible refine wpList_new_rec rfl rfl wr.heap.size rfl ?_); intro w1 hb1 hg1 hs1)
              | ((with_reducible refine wpList_store_rec rfl _ _ _ rfl wr.heap.size 0 r ?_ ?_ ?_ isRow34 ?_); rfl; rfl; (obtain ⟨z, hz⟩ := hb1; exact fun j hj => ⟨by rw [RecAt.of_row hz j hj]; rfl, by rw [Nat.zero_add]; exact (row_of hz).frozen j⟩); intro w2 h2 ho2 hf2 hg2 hs2; have c16 : w2.cell? ⟨wr.heap.size, 16, none⟩ = some (.int .u64 r.job) := h2 16 (by decide); have c2 : w2.cell? ⟨wr.heap.size, 2, none⟩ = some (.string r.state) := h2 2 (by decide); have c1 : w2.cell? ⟨wr.heap.size, 1, none⟩ = some (.string r.comm) := h2 1 (by decide); have hg12 : wr.grownBy w2 none := grownBy_new hg1 hg2 (fun q hq => by cases hq; exact Nat.le_refl _); clear ho2 hf2 hg1 hg2 hb1)
              | ((with_reducible refine wpList_build_key rfl _ _ rfl r.key ?_ ?_ ?_); rfl; rfl)
              | ((with_reducible refine wpList_new_key rfl rfl (wr.heap.size + 1) (by omega) ?_); intro w3 hb3 hg3 hs3)
              | ((with_reducible refine wpList_store_key rfl _ _ rfl (wr.heap.size + 1) r.key ?_ ?_ hb3 ?_); rfl; rfl; intro w4 hb4 hg4 hs4; have hg14 : wr.grownBy w4 none := grownBy_new (grownBy_trans hg12 hg3) hg4 (fun q hq => by cases hq; omega); have h24 : RecAt w4 wr.heap.size 0 r := (h2.kept (hg3.block _ (by omega) (by simp))).kept (hg4.block _ (by omega) (by simp)); have hM4 : MapIs w4 w.heap.size k M := hM.kept hg14 (by simp); have hR4 : Recs w4 B n (mix O R m) := hR.kept (hg14.block B (by omega) (by simp)); clear c16 c2 c1 hb3 hg3 hg4 hg12 h2)
              | ((with_reducible refine wpList_load_key rfl _ rfl (wr.heap.size + 1) r.key ?_ hb4 ?_); rfl)
              | (at_lookup; (with_reducible refine wpList_look_some rfl _ _ rfl w.heap.size k M ?_ hM4 r.key ?_ hkey i HQ.out ?_); rfl; rfl))
            have hin : i < n := by omega
            refine wp_region_held_drew (S := fun W => RecAt W wr.heap.size 0 r) (by kernel_rfl) h24 (fun hHeld => ?_)
            refine wpAnyH_take (i := 3) (v := r.val) rfl (by kernel_rfl) (by kernel_rfl) (by kernel_rfl) (fun _ _ _ h => h)
              (yieldsIf_load_mid (by rfl) 34 _ rfl wr.heap.size 0 rfl r.list _ (fun W hW => RecAt.range hW) Try.underlying34 rfl row34) hHeld ?_
            refine wpAnyH_take (i := 0) (v := .slice (some ⟨B, 0, none⟩) m n) rfl (by kernel_rfl) (by kernel_rfl) (by kernel_rfl) (fun _ _ _ h => h) (Or.inl ⟨by rfl, fun W _ => rfl⟩) hHeld ?_
            refine wpAnyH_take (i := 1) (v := .int .i64 (i : Int)) rfl (by kernel_rfl) (by kernel_rfl) (by kernel_rfl) (fun _ _ _ h => h) (Or.inl ⟨by rfl, fun W _ => rfl⟩) hHeld ?_
            refine wpAnyH_take (i := 2) (v := .pointer (some ⟨B, i * 19, none⟩)) rfl (by kernel_rfl) (by kernel_rfl) (by kernel_rfl) (fun _ _ _ h => h) (Or.inl ⟨by rfl, fun W _ => by go_simp⟩) hHeld ?_
            refine wpAnyH_ready (rs := [4]) (by kernel_rfl) (by simp) (AllReadyH.cons rfl (fun K' hK => ?_) AllReadyH.nil)
            rw [if_pos (by rfl)]
            simp only [Act.put, List.setIfInBounds_toArray]
            go_wp2_with (go_at_call 19; refine (merge19 B n i (mix O R m) r w4.drew (hR4.kept rfl) hin).mono ?_; rintro e w5 ⟨rfl, c, hc, hR5, hg5⟩)
            have hN5 : wr.heap.size < w4.heap.size := by omega
            have h25 : RecAt w5 wr.heap.size 0 r := h24.kept ((hg5.block wr.heap.size hN5 (by simp; omega)))
            refine hK.out _ _ h25 (fun _ => wpAnyH_done (by kernel_rfl) ?_ _)
            clear hK
            go_wp2
            go_roundw
            case rel =>
              have hg5' : w4.grownBy w5 (some B) := ⟨hg5.os, hg5.tape, hg5.output, hg5.size, hg5.block⟩
              have hGW : wr.grownBy w5 (some B) := grownBy_trans (grownBy_any hg14 _) hg5'
              rw [mix_lt him] at hc hR5
              have hR6 : Recs w5 B n (mix (setAt O i (mrg (O i) r c)) R m) := hR5.congr fun t _ => mix_put him _ t
              have hL6 : Roll R (k + 1) m (setAt O i (mrg (O i) r c)) M := by have e := HRK.out; rw [e]; exact Roll.more hL (by rw [← e]; exact HGRP.out) i c (by rw [← e]; exact HQ.out) (by rw [← e]; exact hc)
              exact ⟨k + 1, m, _, M, by omega, by go_num, rfl, hL6, hR6, (hM.kept hGW (by simp; omega)).mono (by omega), grownBy_trans hG hGW, by have := hGW.size; omega⟩
            case measure => simp [intOf]; omega
        · have HGRP : Hid (r.grp = false) := by show _ = _; unfold Rc.grp; rw [hj, hst]; rfl
          go_wp2_with (first
            | ((with_reducible refine wpList_load_rec rfl _ _ rfl B (k * 19) ?_ r hck isRow34 ?_); rfl)
            | ((with_reducible refine wpList_new_rec rfl rfl wr.heap.size rfl ?_); intro w1 hb1 hg1 hs1)
            | ((with_reducible refine wpList_store_rec rfl _ _ _ rfl wr.heap.size 0 r ?_ ?_ ?_ isRow34 ?_); rfl; rfl; (obtain ⟨z, hz⟩ := hb1; exact fun j hj => ⟨by rw [RecAt.of_row hz j hj]; rfl, by rw [Nat.zero_add]; exact (row_of hz).frozen j⟩); intro w2 h2 ho2 hf2 hg2 hs2; have c16 : w2.cell? ⟨wr.heap.size, 16, none⟩ = some (.int .u64 r.job) := h2 16 (by decide); have c2 : w2.cell? ⟨wr.heap.size, 2, none⟩ = some (.string r.state) := h2 2 (by decide); have c1 : w2.cell? ⟨wr.heap.size, 1, none⟩ = some (.string r.comm) := h2 1 (by decide); have hg12 : wr.grownBy w2 none := grownBy_new hg1 hg2 (fun q hq => by cases hq; exact Nat.le_refl _); clear ho2 hf2 hg1 hg2 hb1)
            | ((with_reducible refine wpList_load_rec rfl _ _ rfl wr.heap.size 0 ?_ r h2 isRow34 ?_); rfl)
            | ((with_reducible refine wpList_lit_rec rfl _ rfl r ?_ (wr.heap.size + 1) (by omega) ?_); rfl; intro w3 hb3 hg3 hs3; have hR3 : Recs w3 B n (mix O R m) := hR.kept ((grownBy_trans hg12 hg3).block B (by omega) (by simp)))
            | (at_builtin; (with_reducible refine wpList_append_rec rfl _ _ rfl B m n (wr.heap.size + 1) r ?_ ?_ (RecAt.of_row hb3) (hR3.there (by omega)) (by omega) ?_); rfl; rfl; intro w4 h4 ho4 hf4 hg4 hs4))
          go_roundw
          case rel =>
            have hGW : wr.grownBy w4 (some B) := grownBy_trans (grownBy_any (grownBy_trans hg12 hg3) _) hg4
            have hR4 : Recs w4 B n (mix (setAt O m r) R (m + 1)) := (hR3.put h4 (fun o ho => ho4 ⟨B, o, none⟩ (fun _ _ => ho)) (fun j => hf4 _)).congr fun t _ => mix_push O R m r t
            have hL4 : Roll R (k + 1) (m + 1) (setAt O m r) M := by have e := HRK.out; rw [e]; exact Roll.loose hL (by rw [← e]; exact HGRP.out)
            exact ⟨k + 1, m + 1, setAt O m r, M, by omega, by go_num, rfl, hL4, hR4, (hM.kept hGW (by simp; omega)).mono (by omega), grownBy_trans hG hGW, by have := hGW.size; omega⟩
          case measure => simp [intOf]; omega
      · have HGRP : Hid (r.grp = false) := by show _ = _; unfold Rc.grp; rw [hj]; rfl
        go_wp2_with (first
          | ((with_reducible refine wpList_load_rec rfl _ _ rfl B (k * 19) ?_ r hck isRow34 ?_); rfl)
          | ((with_reducible refine wpList_new_rec rfl rfl wr.heap.size rfl ?_); intro w1 hb1 hg1 hs1)
          | ((with_reducible refine wpList_store_rec rfl _ _ _ rfl wr.heap.size 0 r ?_ ?_ ?_ isRow34 ?_); rfl; rfl; (obtain ⟨z, hz⟩ := hb1; exact fun j hj => ⟨by rw [RecAt.of_row hz j hj]; rfl, by rw [Nat.zero_add]; exact (row_of hz).frozen j⟩); intro w2 h2 ho2 hf2 hg2 hs2; have c16 : w2.cell? ⟨wr.heap.size, 16, none⟩ = some (.int .u64 r.job) := h2 16 (by decide); have c2 : w2.cell? ⟨wr.heap.size, 2, none⟩ = some (.string r.state) := h2 2 (by decide); have c1 : w2.cell? ⟨wr.heap.size, 1, none⟩ = some (.string r.comm) := h2 1 (by decide); have hg12 : wr.grownBy w2 none := grownBy_new hg1 hg2 (fun q hq => by cases hq; exact Nat.le_refl _); clear ho2 hf2 hg1 hg2 hb1)
          | ((with_reducible refine wpList_load_rec rfl _ _ rfl wr.heap.size 0 ?_ r h2 isRow34 ?_); rfl)
          | ((with_reducible refine wpList_lit_rec rfl _ rfl r ?_ (wr.heap.size + 1) (by omega) ?_); rfl; intro w3 hb3 hg3 hs3; have hR3 : Recs w3 B n (mix O R m) := hR.kept ((grownBy_trans hg12 hg3).block B (by omega) (by simp)))
          | (at_builtin; (with_reducible refine wpList_append_rec rfl _ _ rfl B m n (wr.heap.size + 1) r ?_ ?_ (RecAt.of_row hb3) (hR3.there (by omega)) (by omega) ?_); rfl; rfl; intro w4 h4 ho4 hf4 hg4 hs4))
        go_roundw
        case rel =>
          have hGW : wr.grownBy w4 (some B) := grownBy_trans (grownBy_any (grownBy_trans hg12 hg3) _) hg4
          have hR4 : Recs w4 B n (mix (setAt O m r) R (m + 1)) := (hR3.put h4 (fun o ho => ho4 ⟨B, o, none⟩ (fun _ _ => ho)) (fun j => hf4 _)).congr fun t _ => mix_push O R m r t
          have hL4 : Roll R (k + 1) (m + 1) (setAt O m r) M := by have e := HRK.out; rw [e]; exact Roll.loose hL (by rw [← e]; exact HGRP.out)
          exact ⟨k + 1, m + 1, setAt O m r, M, by omega, by go_num, rfl, hL4, hR4, (hM.kept hGW (by simp; omega)).mono (by omega), grownBy_trans hG hGW, by have := hGW.size; omega⟩
        case measure => simp [intOf]; omega
    · have hge : (n : Int) ≤ k := by omega
      obtain rfl : n = k := by omega
      clear hlt
      go_wp2
      go_ret
      exact ⟨m, O, M, rfl, hL, hR, hG⟩
end Go.Proofs.Qxb6604053a
