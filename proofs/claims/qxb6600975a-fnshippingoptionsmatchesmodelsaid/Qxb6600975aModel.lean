import Derived.Test.Qxb6600975aShipLaw
namespace Go.Proofs.Qxb6600975a
open Go.RowKit

theorem info3 : (Try.prog.info? 3).map (fun i => (i.zero, i.size, i.bytes)) = some (some (.int .i64 0), 1, 8) := by kernel_rfl
theorem own_ne {w : World} {base : Nat} {e : TypeId} {size : Nat} {v : Value} {n : Nat} {xs : List Value} (h : w.ownsRow base e size v n xs) {B : Nat} (hB : B < base) : some B ≠ v.ownBlock := by
  intro he
  have := (h.lt B he.symm).1
  omega
/-- The idx list as cells. -/
def idxCells (l : List Nat) : List Value := l.map fun i : Nat => Value.int .i64 (i : Int)

theorem and_flip {p q : Prop} (hq : q) (hp : p) : p ∧ q := ⟨hp, hq⟩
theorem wpList_look_some {ops : Array Oper} {rest : List Oper} {o : Oper} {a : Act} {w : World} {Q : Exit → Act → World → Prop} (hg : o.guard = none) (m x : Operand) (hop : o.op = Op.lookup 50 m x true)
    (B cnt : Nat) (M : List UInt8 → Option Nat) (hm : a.eval m = .map (some B)) (hown : MapIs w B cnt M) (s : ByteArray) (hx : a.eval x = .string s) (hs : s.size ≤ maxLen) (i : Nat) (hi : M s.data.toList = some i)
    (hK : wpList Try.prog ops Q rest (a.put o.dst (.tuple #[.int .i64 (i : Int), .bool true])) w) :
    wpList Try.prog ops Q (o :: rest) a w := by
  refine wpList_look hg m x hop B cnt M hm hown s hx hs fun c hc => ?_
  rw [hc i hi, hi]; exact hK
theorem wpList_look_none {ops : Array Oper} {rest : List Oper} {o : Oper} {a : Act} {w : World} {Q : Exit → Act → World → Prop} (hg : o.guard = none) (m x : Operand) (hop : o.op = Op.lookup 50 m x true)
    (B cnt : Nat) (M : List UInt8 → Option Nat) (hm : a.eval m = .map (some B)) (hown : MapIs w B cnt M) (s : ByteArray) (hx : a.eval x = .string s) (hs : s.size ≤ maxLen) (hi : M s.data.toList = none)
    (hK : ∀ c : Int, wpList Try.prog ops Q rest (a.put o.dst (.tuple #[.int .i64 c, .bool false])) w) :
    wpList Try.prog ops Q (o :: rest) a w := by
  refine wpList_look hg m x hop B cnt M hm hown s hx hs fun c hc => ?_
  rw [hi]; exact hK c

theorem ownsRow_base {w : World} {base base' : Nat} {e : TypeId} {size : Nat} {v : Value} {n : Nat} {xs : List Value} (h : w.ownsRow base e size v n xs) (hb : base' ≤ base) : w.ownsRow base' e size v n xs := by
  obtain ⟨h1, h2⟩ := h
  refine ⟨h1, ?_⟩
  rcases h2 with h2 | ⟨g, cap, cur, e1, e2, e3⟩
  · exact .inl h2
  · exact .inr ⟨g, cap, cur, e1, Nat.le_trans hb e2, e3⟩
theorem idxCells_snoc (l : List Nat) (k : Nat) : idxCells (l ++ [k]) = idxCells l ++ [.int .i64 (k : Int)] := by simp [idxCells]
theorem fdM_step {R : Ship} {n j : Nat} (hj : j < n) : fdM R j (n - j) = if isDfl R j = true then upd (fdM R (j + 1) (n - (j + 1))) (key R j) j else fdM R (j + 1) (n - (j + 1)) := by
  have e : n - j = n - (j + 1) + 1 := by omega
  rw [e, fdM]
theorem selM_own {R : Ship} {country : ByteArray} {n i j : Nat} (h : ownM R country n (key R i) = some j) : selF R country n i = (j == i) := by
  rw [sel_eq, selM, h]
theorem selM_dfl {R : Ship} {country : ByteArray} {n i : Nat} (h : ownM R country n (key R i) = none) : selF R country n i = (fdM R 0 n (key R i) == some i) := by
  rw [sel_eq, selM, h]

set_option maxRecDepth 100000 in
set_option maxHeartbeats 2000000 in
theorem chosen12 (a : Option Addr) (n c : Nat) (country : ByteArray) (R : Ship) (w : World) (hs : ShipRows w a n R) (hn : n ≤ 1048576) (hl : ∀ i, i < n → (R.lv i).size ≤ maxLen) :
    Calls Try.prog 12 #[.slice a n c, .string country] w fun e w' => ∃ v, e = .returned v ∧ w'.ownsRow w.heap.size 3 1 v (selTo R country n n).length (idxCells (selTo R country n n)) ∧ Below w.heap.size w w' := by
  have hmm := @run_makeMap Try.prog
  have HL : Hid _ := hl
  clear hl
  obtain ⟨i0, hi, hz0, hz1, hz2⟩ := info_parts info3
  go_enter Try.func12, Try.ntmps12
  go_wp2
  go_loopw [6] (fun i wr => ∃ k : Nat, k ≤ n ∧ i = .int .i64 k ∧ MapIs wr w.heap.size k (ownM R country k) ∧ Below w.heap.size w wr) (fun i _ => n - (intOf i).toNat)
  case atStart => exact ⟨0, Nat.zero_le _, rfl, mapIs_made _, (Below.refl _ _).alloc (Nat.le_refl _) _⟩
  case round =>
    obtain ⟨k, hk, rfl, hM, hbr⟩ := hrel
    by_cases hlt : k < n
    · obtain ⟨b, off, rfl, hb, hc⟩ := hs (by omega)
      have hlt' : (k : Int) < n := by omega
      have kc : ∀ o, wr.cell? ⟨b, o, none⟩ = w.cell? ⟨b, o, none⟩ := fun o => hbr.cell (p := ⟨b, o, none⟩) hb
      obtain ⟨d0, d1, d2, d3, d4⟩ := hc k hlt
      rw [← kc] at d0 d1 d2 d3 d4
      have hlk := HL.out k hlt
      have hmax : k < maxLen := by unfold maxLen; omega
      have hk9 : k < 1000000000 := by omega
      clear hs hc kc d0 d3 d4
      cases ho : ((R.cc k).toList == country.toList)
      · have HE : Hid (ownM R country (k + 1) = ownM R country k) := by show _ = _; rw [ownM, if_neg (by rw [isOwn, ho]; exact Bool.false_ne_true)]
        go_wp2
        go_roundw
        case rel => exact ⟨k + 1, by omega, by go_num, by rw [HE.out]; exact hM.mono (by omega), hbr⟩
        case measure => simp [intOf]; omega
      · have HE : Hid (ownM R country (k + 1) = upd (ownM R country k) (key R k) k) := by show _ = _; rw [ownM, if_pos (by rw [isOwn, ho])]
        go_wp2_with (first
          | (at_mapUpdate; (with_reducible refine wpList_upd rfl _ _ _ rfl w.heap.size k (ownM R country k) ?_ hM hmax (R.lv k) ?_ hlk k ?_ hk9 ?_); rfl; rfl; rfl; intro w1 hM1 hg1))
        go_roundw
        case rel => exact ⟨k + 1, by omega, by go_num, by rw [HE.out]; exact hM1, hbr.grown hg1 hbr.size (fun j hj => by cases hj; exact Nat.le_refl _)⟩
        case measure => simp [intOf]; omega
    · have hge : (n : Int) ≤ k := by omega
      obtain rfl : n = k := by omega
      obtain ⟨w2, rfl⟩ : ∃ w2 : World, w2 = wr := ⟨_, rfl⟩
      have hB2 : w.heap.size < w2.heap.size := hM.lt
      clear hlt
      go_wp2
      go_loopw [8] (fun i wr => ∃ j : Nat, j ≤ n ∧ i = .int .i64 ((j : Int) - 1) ∧ MapIs wr w2.heap.size (n - j) (fdM R j (n - j)) ∧ MapIs wr w.heap.size n (ownM R country n) ∧ Below w.heap.size w wr) (fun i _ => (intOf i + 1).toNat)
      case atStart => exact ⟨n, Nat.le_refl _, rfl, by rw [Nat.sub_self]; exact mapIs_made _, hM.alloc _, hbr.alloc (by omega) _⟩
      case round =>
        clear hM hbr
        obtain ⟨j, hj, rfl, hD, hM, hbr⟩ := hrel
        cases j with
        | succ j =>
          obtain ⟨b, off, rfl, hb, hc⟩ := hs (by omega)
          have hlt : j < n := by omega
          have hlt' : (j : Int) < n := by omega
          have kc : ∀ o, wr.cell? ⟨b, o, none⟩ = w.cell? ⟨b, o, none⟩ := fun o => hbr.cell (p := ⟨b, o, none⟩) hb
          obtain ⟨d0, d1, d2, d3, d4⟩ := hc j hlt
          rw [← kc] at d0 d1 d2 d3 d4
          rw [show (((j + 1 : Nat) : Int) - 1) = (j : Int) from by omega]
          have hlk := HL.out j hlt
          have hmax : n - (j + 1) < maxLen := by unfold maxLen; omega
          have hk9 : j < 1000000000 := by omega
          have hcn : n - j = n - (j + 1) + 1 := by omega
          have HCN : Hid _ := hcn
          have HF : Hid _ := fdM_step (R := R) hlt
          clear hs hc kc d0 d3 d4 hcn
          cases ho : ((R.cc j).toList == [100, 101, 102, 97, 117, 108, 116])
          · go_wp2
            go_roundw
            case rel => exact ⟨j, by omega, by go_num, by rw [HF.out, if_neg (by rw [isDfl, ho]; exact Bool.false_ne_true)]; exact hD.mono (by omega), hM, hbr⟩
            case measure => simp [intOf]
          · go_wp2_with (first
              | (at_mapUpdate; (with_reducible refine wpList_upd rfl _ _ _ rfl w2.heap.size (n - (j + 1)) (fdM R (j + 1) (n - (j + 1))) ?_ hD hmax (R.lv j) ?_ hlk j ?_ hk9 ?_); rfl; rfl; rfl; intro w1 hD1 hg1))
            go_roundw
            case rel => exact ⟨j, by omega, by go_num, by rw [HF.out, if_pos (by rw [isDfl, ho]), HCN.out]; exact hD1, hM.kept hg1 (by simp; omega), hbr.grown hg1 hbr.size (fun j hj => by cases hj; omega)⟩
            case measure => simp [intOf]
        | zero =>
          obtain ⟨w3, rfl⟩ : ∃ w3 : World, w3 = wr := ⟨_, rfl⟩
          rw [Nat.sub_zero] at hD
          have hB3 : w2.heap.size < w3.heap.size := hD.lt
          go_wp2
          go_loopw [9, 10] (fun v i wr => ∃ k : Nat, k ≤ n ∧ i = .int .i64 k ∧ wr.ownsRow w3.heap.size 3 1 v (selTo R country n k).length (idxCells (selTo R country n k)) ∧ MapIs wr w2.heap.size n (fdM R 0 n) ∧ MapIs wr w.heap.size n (ownM R country n) ∧ Below w.heap.size w wr ∧ w3.heap.size ≤ wr.heap.size) (fun _ i _ => n - (intOf i).toNat)
          case atStart => exact ⟨0, Nat.zero_le _, rfl, World.ownsRow_nil _ _ _ _, hD, hM, hbr, Nat.le_refl _⟩
          case round =>
            clear hD hM hbr
            obtain ⟨k, hk, rfl, hown, hD, hM, hbr, hsz⟩ := hrel
            by_cases hlt : k < n
            · obtain ⟨b, off, rfl, hb, hc⟩ := hs (by omega)
              have hlt' : (k : Int) < n := by omega
              have kc : ∀ o, wr.cell? ⟨b, o, none⟩ = w.cell? ⟨b, o, none⟩ := fun o => hbr.cell (p := ⟨b, o, none⟩) hb
              obtain ⟨d0, d1, d2, d3, d4⟩ := hc k hlt
              rw [← kc] at d0 d1 d2 d3 d4
              have hlk := HL.out k hlt
              clear hs hc kc d0 d1 d3 d4
              have hsl := selTo_length R country n k
              cases hq : ownM R country n (key R k) with
              | some j =>
                have HQ : Hid _ := hq
                have HS : Hid (selF R country n k = (j == k)) := selM_own hq
                clear hq
                by_cases e : j = k
                · have e' : ((j : Int) == k) = true := by rw [beq_iff_eq]; omega
                  have HE : Hid _ := e
                  clear e
                  go_wp2_with (first
                    | (at_lookup; (with_reducible refine wpList_look_some rfl _ _ rfl w.heap.size n (ownM R country n) ?_ hM (R.lv k) ?_ hlk j ?_ ?_); rfl; rfl; exact HQ.out)
                    | (at_builtin; refine wpList_append_own _ rfl _ _ 28 rfl w3.heap.size 3 i0 (.int .i64 0) 1 8 Try.underlying28 hi hz0 hz1 hz2 rfl (by decide) _ _ _ rfl (hown.alloc _) ⟨wr.heap.size, 0, none⟩ 1 1 [.int .i64 (k : Int)] rfl rfl (cell_one_new _ _ _) (ints_oneCell .i64 [(k : Int)]) (by unfold maxLen; omega) (by omega) (by simp; omega) ?_; intro v' w1 hown' hgrow hnil))
                  go_wp2
                  go_roundw
                  case rel =>
                    have hsel := selTo_hit R country (n := n) (k := k) (by rw [HS.out, HE.out]; simp)
                    have hR : w1.ownsRow w3.heap.size 3 1 v' (selTo R country n (k + 1)).length (idxCells (selTo R country n (k + 1))) ∧ MapIs w1 w2.heap.size n (fdM R 0 n) ∧ MapIs w1 w.heap.size n (ownM R country n) ∧ Below w.heap.size w w1 ∧ w3.heap.size ≤ w1.heap.size :=
                      ⟨by rw [hsel, List.length_append, idxCells_snoc]; exact hown', (hD.alloc _).kept hgrow (own_ne hown hB3), (hM.alloc _).kept hgrow (own_ne hown (by omega)), (hbr.alloc hbr.size _).grown hgrow (by simp; have := hbr.size; omega) (fun q hq => by have := (hown.lt q hq).1; omega), by have := hgrow.size; simp at this; omega⟩
                    first | exact ⟨k + 1, by omega, by go_num, hR⟩ | ((repeat apply Exists.intro); refine and_flip rfl ?_; exact ⟨k + 1, by omega, by go_num, hR⟩)
                  case measure => simp [intOf]; omega
                · have e' : ((j : Int) == k) = false := by rw [beq_eq_false_iff_ne]; omega
                  have HE : Hid _ := e
                  clear e
                  go_wp2_with (first
                    | (at_lookup; (with_reducible refine wpList_look_some rfl _ _ rfl w.heap.size n (ownM R country n) ?_ hM (R.lv k) ?_ hlk j ?_ ?_); rfl; rfl; exact HQ.out))
                  go_roundw
                  case rel =>
                    have hsel := selTo_miss R country (n := n) (k := k) (by rw [HS.out]; exact beq_eq_false_iff_ne.2 HE.out)
                    first | exact ⟨k + 1, by omega, by go_num, by rw [hsel]; exact hown, hD, hM, hbr, hsz⟩ | ((repeat apply Exists.intro); refine and_flip rfl ?_; exact ⟨k + 1, by omega, by go_num, by rw [hsel]; exact hown, hD, hM, hbr, hsz⟩)
                  case measure => simp [intOf]; omega
              | none =>
                have HQ : Hid _ := hq
                have HS : Hid (selF R country n k = (fdM R 0 n (key R k) == some k)) := selM_dfl hq
                clear hq
                cases hf : fdM R 0 n (key R k) with
                | none =>
                  have HFN : Hid _ := hf
                  have HS2 : Hid (selF R country n k = false) := by show _ = _; rw [HS.out, hf]; rfl
                  clear hf
                  go_wp2_with (first
                    | (at_lookup; (with_reducible refine wpList_look_none rfl (.tmp 70) _ rfl w.heap.size n (ownM R country n) ?_ hM (R.lv k) ?_ hlk ?_ ?_); rfl; rfl; exact HQ.out; intro c1)
                    | (at_lookup; (with_reducible refine wpList_look_none rfl (.tmp 84) _ rfl w2.heap.size n (fdM R 0 n) ?_ hD (R.lv k) ?_ hlk ?_ ?_); rfl; rfl; exact HFN.out; intro c2))
                  go_roundw
                  case rel =>
                    have hsel := selTo_miss R country (n := n) (k := k) HS2.out
                    first | exact ⟨k + 1, by omega, by go_num, by rw [hsel]; exact hown, hD, hM, hbr, hsz⟩ | ((repeat apply Exists.intro); refine and_flip rfl ?_; exact ⟨k + 1, by omega, by go_num, by rw [hsel]; exact hown, hD, hM, hbr, hsz⟩)
                  case measure => simp [intOf]; omega
                | some j =>
                  have HFN : Hid _ := hf
                  by_cases e : j = k
                  · have HS2 : Hid (selF R country n k = true) := by show _ = _; rw [HS.out, hf, e]; simp
                    have e' : ((j : Int) == k) = true := by rw [beq_iff_eq]; omega
                    clear hf e
                    go_wp2_with (first
                      | (at_lookup; (with_reducible refine wpList_look_none rfl (.tmp 70) _ rfl w.heap.size n (ownM R country n) ?_ hM (R.lv k) ?_ hlk ?_ ?_); rfl; rfl; exact HQ.out; intro c1)
                      | (at_lookup; (with_reducible refine wpList_look_some rfl (.tmp 84) _ rfl w2.heap.size n (fdM R 0 n) ?_ hD (R.lv k) ?_ hlk j ?_ ?_); rfl; rfl; exact HFN.out)
                      | (at_builtin; refine wpList_append_own _ rfl _ _ 28 rfl w3.heap.size 3 i0 (.int .i64 0) 1 8 Try.underlying28 hi hz0 hz1 hz2 rfl (by decide) _ _ _ rfl (hown.alloc _) ⟨wr.heap.size, 0, none⟩ 1 1 [.int .i64 (k : Int)] rfl rfl (cell_one_new _ _ _) (ints_oneCell .i64 [(k : Int)]) (by unfold maxLen; omega) (by omega) (by simp; omega) ?_; intro v' w1 hown' hgrow hnil))
                    go_wp2
                    go_roundw
                    case rel =>
                      have hsel := selTo_hit R country (n := n) (k := k) HS2.out
                      have hR : w1.ownsRow w3.heap.size 3 1 v' (selTo R country n (k + 1)).length (idxCells (selTo R country n (k + 1))) ∧ MapIs w1 w2.heap.size n (fdM R 0 n) ∧ MapIs w1 w.heap.size n (ownM R country n) ∧ Below w.heap.size w w1 ∧ w3.heap.size ≤ w1.heap.size :=
                        ⟨by rw [hsel, List.length_append, idxCells_snoc]; exact hown', (hD.alloc _).kept hgrow (own_ne hown hB3), (hM.alloc _).kept hgrow (own_ne hown (by omega)), (hbr.alloc hbr.size _).grown hgrow (by simp; have := hbr.size; omega) (fun q hq => by have := (hown.lt q hq).1; omega), by have := hgrow.size; simp at this; omega⟩
                      first | exact ⟨k + 1, by omega, by go_num, hR⟩ | ((repeat apply Exists.intro); refine and_flip rfl ?_; exact ⟨k + 1, by omega, by go_num, hR⟩)
                    case measure => simp [intOf]; omega
                  · have HS2 : Hid (selF R country n k = false) := by show _ = _; rw [HS.out, hf]; simp [e]
                    have e' : ((j : Int) == k) = false := by rw [beq_eq_false_iff_ne]; omega
                    clear hf e
                    go_wp2_with (first
                      | (at_lookup; (with_reducible refine wpList_look_none rfl (.tmp 70) _ rfl w.heap.size n (ownM R country n) ?_ hM (R.lv k) ?_ hlk ?_ ?_); rfl; rfl; exact HQ.out; intro c1)
                      | (at_lookup; (with_reducible refine wpList_look_some rfl (.tmp 84) _ rfl w2.heap.size n (fdM R 0 n) ?_ hD (R.lv k) ?_ hlk j ?_ ?_); rfl; rfl; exact HFN.out))
                    go_roundw
                    case rel =>
                      have hsel := selTo_miss R country (n := n) (k := k) HS2.out
                      first | exact ⟨k + 1, by omega, by go_num, by rw [hsel]; exact hown, hD, hM, hbr, hsz⟩ | ((repeat apply Exists.intro); refine and_flip rfl ?_; exact ⟨k + 1, by omega, by go_num, by rw [hsel]; exact hown, hD, hM, hbr, hsz⟩)
                    case measure => simp [intOf]; omega
            · have hge : (n : Int) ≤ k := by omega
              obtain rfl : n = k := by omega
              clear hlt
              go_wp2
              go_ret
              exact ⟨_, rfl, ownsRow_base hown (by omega), hbr⟩
end Go.Proofs.Qxb6600975a
