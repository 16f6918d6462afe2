import Derived.Test.Qxb6600975aOpts
import Derived.BigQuiet
import Derived.Deep.QuietTactic
import Derived.Deep.RegionWith
import Derived.Deep.DeepCutAuto
namespace Go.Proofs.Qxb6600975a
open Go.RowKit

theorem totals_cell {W : World} {g : Nat} {p : Int} (h : W.heap[g]? = some (.cells (totals p) 54 (0, 0))) : W.cell? ⟨g, 0, none⟩ = some (.int .i64 1) ∧ W.cell? ⟨g, 1, none⟩ = some (.int .i64 p) ∧ W.cell? ⟨g, 2, none⟩ = some (.int .i64 2) ∧ W.cell? ⟨g, 3, none⟩ = some (.int .i64 p) := by
  refine ⟨?_, ?_, ?_, ?_⟩ <;> rw [cell_of_row W g _ _ 54 (0, 0) h] <;> rfl

set_option maxHeartbeats 1000000 in
theorem optionIs13 (id cc lv tt : ByteArray) (pr : Int) (g : Nat) (w : World) (h : w.heap[g]? = some (.cells (totals pr) 54 (0, 0))) :
    Calls Try.prog 13 #[.agg #[.string id, .string tt, .slice (some ⟨g, 0, none⟩) 2 2], .agg #[.string id, .string cc, .string lv, .int .i64 pr, .string tt]] w fun e w' => e = .returned (.bool true) ∧ Below w.heap.size w w' := by
  have hg := heap_lt h
  obtain ⟨c0, c1, c2, c3⟩ := totals_cell h
  clear h
  go_enter Try.func13, Try.ntmps13
  go_wp2
  go_quiet (fail)
  go_wp2
  go_quiet (fail)
  go_wp2
  go_ret
  exact ⟨rfl, below_drewN (below_drewN (((Below.refl _ _).alloc (Nat.le_refl _) _).alloc (by simp) _) _) _⟩

/-- A slice that the call has built, as the walk wants it. -/
theorem ownsRow_shape {w : World} {base : Nat} {e : TypeId} {size : Nat} {v : Value} {n : Nat} {xs : List Value} (h : w.ownsRow base e size v n xs) :
    ∃ ad cap, v = .slice ad n cap ∧ (0 < n → ∃ g, ad = some ⟨g, 0, none⟩ ∧ g < w.heap.size ∧ ∀ j, j < n * size → w.cell? ⟨g, j, none⟩ = xs[j]?) := by
  obtain ⟨h1, h2⟩ := h
  rcases h2 with ⟨rfl, rfl⟩ | ⟨g, cap, cur, rfl, e2, e3, e4, e5, e6, e7⟩
  · exact ⟨none, 0, rfl, fun h => by omega⟩
  · refine ⟨some ⟨g, 0, none⟩, cap, rfl, fun _ => ⟨g, rfl, heap_lt e3, fun j hj => ?_⟩⟩
    rw [cell_of_row w g j cur e (0, 0) e3, ← e7, List.getElem?_take, if_pos hj]; simp

set_option maxRecDepth 100000 in
set_option maxHeartbeats 2000000 in
theorem walkShip (a : Option Addr) (n c : Nat) (country : ByteArray) (R : Ship) (w : World) (hs : ShipRows w a n R) (hl : ∀ i, i < n → (R.lv i).size ≤ maxLen) :
    Calls Try.prog 3 #[.slice a n c, .string country] w fun e w' => e = .returned (.bool true) ∧ Below w.heap.size w w' := by
  have HL : Hid _ := hl
  clear hl
  go_enter Try.func3, Try.ntmps3
  go_wp2_with fail
  refine (zzBytes8 a n c country R _ hs).mono ?_
  rintro e w1 ⟨⟨b, rfl, hn⟩, rfl⟩
  cases b
  · go_wp2
    go_ret
    exact ⟨rfl, Below.refl _ _⟩
  have hn' := hn rfl
  clear hn
  go_wp2_with fail
  refine (tooBig9 a n c country R _ hs hn').mono ?_
  rintro e w1 ⟨⟨b, rfl⟩, rfl⟩
  cases b
  rotate_left
  · go_wp2
    go_ret
    exact ⟨rfl, Below.refl _ _⟩
  go_wp2_with fail
  refine (toCatalog11 a n c R _ hs hn').mono ?_
  rintro e w2 ⟨rfl, hs2, hb2⟩
  go_wp2_with fail
  refine (zzShipping10 _ n n country R _ hs2 hn' HL.out).mono ?_
  rintro e w3 ⟨v, xs, rfl, ho3, hO3, hb3⟩
  have hb13 : Below w1.heap.size w1 w3 := hb2.trans (hb3.mono hb2.size)
  obtain ⟨ad, cap, rfl, hgot⟩ := ownsRow_shape ho3
  go_wp2_with fail
  refine (chosen12 a n c country R _ (hs.later hb13) hn' HL.out).mono ?_
  rintro e w4 ⟨v2, rfl, ho4, hb4⟩
  obtain ⟨ad2, cap2, rfl, hidx⟩ := ownsRow_shape ho4
  have hb14 : Below w1.heap.size w1 w4 := hb13.trans (hb4.mono hb13.size)
  have hlen := selTo_length R country n n
  have hsz3 := hb4.size
  clear ho3 ho4 hs2 hb2 hb3
  generalize hm : (selTo R country n n).length = m at *
  have HM : Hid _ := hm
  clear hm
  go_wp2
  go_loopw [7] (fun i wr => ∃ k : Nat, k ≤ m ∧ i = .int .i64 k ∧ Below w4.heap.size w4 wr) (fun i _ => m - (intOf i).toNat)
  case atStart => exact ⟨0, Nat.zero_le _, rfl, Below.refl _ _⟩
  case round =>
    obtain ⟨k, hk, rfl, hbr⟩ := hrel
    by_cases hlt : k < m
    · obtain ⟨g, rfl, hg, hgc⟩ := hgot (by omega)
      obtain ⟨g2, rfl, hg2, hgc2⟩ := hidx (by omega)
      have hkl : k < (selTo R country n n).length := by rw [HM.out]; exact hlt
      obtain ⟨i, hi⟩ : ∃ i, (selTo R country n n)[k]? = some i := ⟨_, List.getElem?_eq_getElem hkl⟩
      have hin : i < n := selTo_lt R country (List.mem_of_getElem? hi)
      obtain ⟨b, off, rfl, hb, hc⟩ := hs (by omega)
      obtain ⟨gt, x0, x1, x2, hT⟩ := hO3 k i hi
      have kc3 : ∀ o, wr.cell? ⟨g, o, none⟩ = w3.cell? ⟨g, o, none⟩ := fun o => (hbr.cell (p := ⟨g, o, none⟩) (by show g < _; omega)).trans (hb4.cell (p := ⟨g, o, none⟩) hg)
      have q0 : wr.cell? ⟨g, k * 3, none⟩ = some (.string (R.id i)) := by rw [kc3, hgc _ (by omega)]; exact x0
      have q1 : wr.cell? ⟨g, k * 3 + 1, none⟩ = some (.string (R.tt i)) := by rw [kc3, hgc _ (by omega)]; exact x1
      have q2 : wr.cell? ⟨g, k * 3 + 2, none⟩ = some (.slice (some ⟨gt, 0, none⟩) 2 2) := by rw [kc3, hgc _ (by omega)]; exact x2
      have hTr : wr.heap[gt]? = some (.cells (totals (R.pr i)) 54 (0, 0)) := (hbr.block gt (by have := heap_lt hT; omega)).trans ((hb4.block gt (heap_lt hT)).trans hT)
      have qi : wr.cell? ⟨g2, k, none⟩ = some (.int .i64 (i : Int)) := by
        rw [hbr.cell (p := ⟨g2, k, none⟩) hg2, hgc2 k (by omega), idxCells, List.getElem?_map, hi]; rfl
      have kc : ∀ o, wr.cell? ⟨b, o, none⟩ = w1.cell? ⟨b, o, none⟩ := fun o => (hb14.trans (hbr.mono hb14.size)).cell (p := ⟨b, o, none⟩) hb
      obtain ⟨d0, d1, d2, d3, d4⟩ := hc i hin
      rw [← kc] at d0 d1 d2 d3 d4
      have hlt' : (k : Int) < m := by omega
      have hin' : (i : Int) < n := by omega
      have HT : Hid _ := hTr
      clear hs hc kc kc3 hgot hidx hgc hgc2 x0 x1 x2 hi hTr
      go_wp2
      go_region_with (go_at_call 13; refine (optionIs13 (R.id i) (R.cc i) (R.lv i) (R.tt i) (R.pr i) gt _ (by exact HT.out)).mono ?_; rintro e w5 ⟨rfl, hb5⟩)
      all_goals
        go_wp2
        go_roundw
        case rel => exact ⟨k + 1, by omega, by go_num, hbr.trans ((Below.refl _ _).drew.trans (hb5.mono hbr.size))⟩
        case measure => simp [intOf]; omega
    · have hge : (m : Int) ≤ k := by omega
      clear hlt
      go_wp2
      go_ret
      exact ⟨rfl, hb14.trans (hbr.mono hb14.size)⟩
end Go.Proofs.Qxb6600975a
