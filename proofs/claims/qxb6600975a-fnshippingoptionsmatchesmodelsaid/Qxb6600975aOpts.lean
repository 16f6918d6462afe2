import Derived.Test.Qxb6600975aModel
namespace Go.Proofs.Qxb6600975a
open Go.RowKit

theorem info33 : (Try.prog.info? 33).map (fun i => (i.zero, i.size, i.bytes)) = some (some (.agg #[.string ⟨#[]⟩, .string ⟨#[]⟩, .slice none 0 0]), 3, 56) := by kernel_rfl
/-- The two totals of an option, as they lie in memory. -/
def totals (p : Int) : Array Value := #[.int .i64 1, .int .i64 p, .int .i64 2, .int .i64 p]
/-- The options' cells, three an option. -/
def Opts (W : World) (R : Ship) (xs : List Value) (l : List Nat) : Prop :=
  ∀ t i, l[t]? = some i → ∃ g, xs[t * 3]? = some (.string (R.id i)) ∧ xs[t * 3 + 1]? = some (.string (R.tt i)) ∧ xs[t * 3 + 2]? = some (.slice (some ⟨g, 0, none⟩) 2 2) ∧ W.heap[g]? = some (.cells (totals (R.pr i)) 54 (0, 0))
theorem Opts.kept {W W' : World} {R : Ship} {xs : List Value} {l : List Nat} (h : Opts W R xs l) (hk : ∀ (g : Nat) (p : Int), W.heap[g]? = some (.cells (totals p) 54 (0, 0)) → W'.heap[g]? = some (.cells (totals p) 54 (0, 0))) : Opts W' R xs l := by
  intro t i hi
  obtain ⟨g, h0, h1, h2, h3⟩ := h t i hi
  exact ⟨g, h0, h1, h2, hk g _ h3⟩
theorem Opts.snoc {W : World} {R : Ship} {xs : List Value} {l : List Nat} (h : Opts W R xs l) (hx : xs.length = l.length * 3) (k g : Nat) (hg : W.heap[g]? = some (.cells (totals (R.pr k)) 54 (0, 0))) :
    Opts W R (xs ++ [.string (R.id k), .string (R.tt k), .slice (some ⟨g, 0, none⟩) 2 2]) (l ++ [k]) := by
  intro t i hi
  by_cases ht : t < l.length
  · rw [List.getElem?_append_left ht] at hi
    obtain ⟨g', h0, h1, h2, h3⟩ := h t i hi
    refine ⟨g', ?_, ?_, ?_, h3⟩
    · rw [List.getElem?_append_left (by omega)]; exact h0
    · rw [List.getElem?_append_left (by omega)]; exact h1
    · rw [List.getElem?_append_left (by omega)]; exact h2
  · have hl : t = l.length := by
      have := (List.getElem?_eq_some_iff.1 hi).1
      simp at this; omega
    subst hl
    rw [List.getElem?_append_right (Nat.le_refl _), Nat.sub_self] at hi
    obtain rfl : k = i := by simpa using hi
    refine ⟨g, ?_, ?_, ?_, hg⟩
    · rw [List.getElem?_append_right (by omega), hx, show l.length * 3 - l.length * 3 = 0 from by omega]; rfl
    · rw [List.getElem?_append_right (by omega), hx, show l.length * 3 + 1 - l.length * 3 = 1 from by omega]; rfl
    · rw [List.getElem?_append_right (by omega), hx, show l.length * 3 + 2 - l.length * 3 = 2 from by omega]; rfl
theorem heap_lt {W : World} {g : Nat} {o : Obj} (h : W.heap[g]? = some o) : g < W.heap.size := (Array.getElem?_eq_some_iff.1 h).1
theorem keep_alloc {W : World} {g : Nat} {x : Obj} (o : Obj) (h : W.heap[g]? = some x) : (W.alloc o).heap[g]? = some x := (Below.heap_alloc W o g (heap_lt h)).trans h
/-- An append onto the options' row leaves each totals' block as it was. -/
theorem keep_totals {W W' : World} {base : Nat} {v : Value} {n : Nat} {xs : List Value} (ho : W.ownsRow base 33 3 v n xs) (hg : W.grownBy W' v.ownBlock) (g : Nat) (p : Int) (h : W.heap[g]? = some (.cells (totals p) 54 (0, 0))) : W'.heap[g]? = some (.cells (totals p) 54 (0, 0)) := by
  refine (hg.block g (heap_lt h) ?_).trans h
  intro he
  obtain ⟨_, h2⟩ := ho
  rcases h2 with ⟨rfl, _⟩ | ⟨g', cap, cur, rfl, _, h3, _⟩
  · cases he
  · simp only [Value.ownBlock, Option.some.injEq] at he
    subst he
    rw [h3] at h
    simp at h
theorem news_cells (W : World) (cs : List Value) (t : TypeId) (B : Nat) (hB : B = W.heap.size) (j : Nat) (u : Value) (h : cs[j]? = some u) : (W.alloc (.cells cs.toArray t)).cell? ((⟨B, 0, none⟩ : Addr).add j) = some u := by
  rw [show ((⟨B, 0, none⟩ : Addr).add j) = ⟨B, j, none⟩ from by unfold Addr.add; split <;> simp_all, World.cell?_alloc_at cs.toArray t B j hB]
  simpa using h

set_option maxRecDepth 100000 in
set_option maxHeartbeats 2000000 in
theorem shipping26 (a : Option Addr) (n c : Nat) (country : ByteArray) (R : Ship) (w : World) (hs : ShipRows w a n R) (hn : n ≤ 1048576) (hl : ∀ i, i < n → (R.lv i).size ≤ maxLen) :
    Calls Try.prog 26 #[.slice a n c, .string country] w fun e w' => ∃ v xs, e = .returned v ∧ w'.ownsRow w.heap.size 33 3 v (selTo R country n n).length xs ∧ Opts w' R xs (selTo R country n n) ∧ Below w.heap.size w w' := by
  have hmm := @run_makeMap Try.prog
  have HL : Hid _ := hl
  clear hl
  obtain ⟨i0, hi, hz0, hz1, hz2⟩ := info_parts info33
  go_enter Try.func26, Try.ntmps26
  go_wp2
  go_loopw [18] (fun i wr => ∃ k : Nat, k ≤ n ∧ i = .int .i64 k ∧ MapIs wr w.heap.size k (ch R country k) ∧ Below w.heap.size w wr) (fun i _ => n - (intOf i).toNat)
  case atStart => exact ⟨0, Nat.zero_le _, rfl, mapIs_made _, (Below.refl _ _).alloc (Nat.le_refl _) _⟩
  case round =>
    obtain ⟨k, hk, rfl, hM, hbr⟩ := hrel
    by_cases hlt : k < n
    · obtain ⟨b, off, rfl, hb, hc⟩ := hs (by omega)
      have hlt' : (k : Int) < n := by omega
      have kc : ∀ o, wr.cell? ⟨b, o, none⟩ = w.cell? ⟨b, o, none⟩ := fun o => hbr.cell (p := ⟨b, o, none⟩) hb
      obtain ⟨d0, d1, d2, d3, d4⟩ := hc k hlt
      rw [← kc] at d0 d1 d2 d3 d4
      have hlk := HL.out k hlt
      have hmax : k < maxLen := by unfold maxLen; omega
      have hk9 : k < 1000000000 := by omega
      have hsz := hbr.size
      clear hs hc kc
      cases hq : ch R country k (key R k) with
      | none =>
        have HQ : Hid _ := hq
        cases ho : ((R.cc k).toList == country.toList)
        · cases hd : ((R.cc k).toList == [100, 101, 102, 97, 117, 108, 116])
          · have HE : Hid (ch R country (k + 1) = ch R country k) := by show _ = _; rw [ch, if_neg (by rw [isOwn, ho]; exact Bool.false_ne_true), if_neg (by rw [isDfl, hd]; exact Bool.false_ne_true)]
            clear hq
            go_wp2_with (first
              | (at_lookup; (with_reducible refine wpList_look_none rfl _ _ rfl w.heap.size k (ch R country k) ?_ (hM.alloc _) (R.lv k) ?_ hlk ?_ ?_); rfl; rfl; exact HQ.out; intro c1))
            go_roundw
            case rel => exact ⟨k + 1, by omega, by go_num, by rw [HE.out]; exact (hM.alloc _).mono (by omega), hbr.alloc hsz _⟩
            case measure => simp [intOf]; omega
          · have HE : Hid (ch R country (k + 1) = upd (ch R country k) (key R k) k) := by show _ = _; rw [ch, if_neg (by rw [isOwn, ho]; exact Bool.false_ne_true), if_pos (by rw [isDfl, hd, hq]; rfl)]
            clear hq
            go_wp2_with (first
              | (at_lookup; (with_reducible refine wpList_look_none rfl _ _ rfl w.heap.size k (ch R country k) ?_ (hM.alloc _) (R.lv k) ?_ hlk ?_ ?_); rfl; rfl; exact HQ.out; intro c1)
              | (at_mapUpdate; (with_reducible refine wpList_upd rfl _ _ _ rfl w.heap.size k (ch R country k) ?_ (hM.alloc _) hmax (R.lv k) ?_ hlk k ?_ hk9 ?_); rfl; rfl; rfl; intro w1 hM1 hg1))
            go_roundw
            case rel => exact ⟨k + 1, by omega, by go_num, by rw [HE.out]; exact hM1, (hbr.alloc hsz _).grown hg1 (by simp; omega) (fun j hj => by cases hj; exact Nat.le_refl _)⟩
            case measure => simp [intOf]; omega
        · have HE : Hid (ch R country (k + 1) = upd (ch R country k) (key R k) k) := by show _ = _; rw [ch, if_pos (by rw [isOwn, ho])]
          clear hq
          go_wp2_with (first
            | (at_lookup; (with_reducible refine wpList_look_none rfl _ _ rfl w.heap.size k (ch R country k) ?_ (hM.alloc _) (R.lv k) ?_ hlk ?_ ?_); rfl; rfl; exact HQ.out; intro c1)
            | (at_mapUpdate; (with_reducible refine wpList_upd rfl _ _ _ rfl w.heap.size k (ch R country k) ?_ (hM.alloc _) hmax (R.lv k) ?_ hlk k ?_ hk9 ?_); rfl; rfl; rfl; intro w1 hM1 hg1))
          go_roundw
          case rel => exact ⟨k + 1, by omega, by go_num, by rw [HE.out]; exact hM1, (hbr.alloc hsz _).grown hg1 (by simp; omega) (fun j hj => by cases hj; exact Nat.le_refl _)⟩
          case measure => simp [intOf]; omega
      | some j =>
        have HQ : Hid _ := hq
        cases ho : ((R.cc k).toList == country.toList)
        · have HE : Hid (ch R country (k + 1) = ch R country k) := by show _ = _; rw [ch, if_neg (by rw [isOwn, ho]; exact Bool.false_ne_true), if_neg (by rw [hq]; simp)]
          clear hq
          cases hd : ((R.cc k).toList == [100, 101, 102, 97, 117, 108, 116])
          all_goals
            go_wp2_with (first
              | (at_lookup; (with_reducible refine wpList_look_some rfl _ _ rfl w.heap.size k (ch R country k) ?_ (hM.alloc _) (R.lv k) ?_ hlk j ?_ ?_); rfl; rfl; exact HQ.out))
            go_roundw
            case rel => exact ⟨k + 1, by omega, by go_num, by rw [HE.out]; exact (hM.alloc _).mono (by omega), hbr.alloc hsz _⟩
            case measure => simp [intOf]; omega
        · have HE : Hid (ch R country (k + 1) = upd (ch R country k) (key R k) k) := by show _ = _; rw [ch, if_pos (by rw [isOwn, ho])]
          clear hq
          go_wp2_with (first
            | (at_lookup; (with_reducible refine wpList_look_some rfl _ _ rfl w.heap.size k (ch R country k) ?_ (hM.alloc _) (R.lv k) ?_ hlk j ?_ ?_); rfl; rfl; exact HQ.out)
            | (at_mapUpdate; (with_reducible refine wpList_upd rfl _ _ _ rfl w.heap.size k (ch R country k) ?_ (hM.alloc _) hmax (R.lv k) ?_ hlk k ?_ hk9 ?_); rfl; rfl; rfl; intro w1 hM1 hg1))
          go_roundw
          case rel => exact ⟨k + 1, by omega, by go_num, by rw [HE.out]; exact hM1, (hbr.alloc hsz _).grown hg1 (by simp; omega) (fun j hj => by cases hj; exact Nat.le_refl _)⟩
          case measure => simp [intOf]; omega
    · have hge : (n : Int) ≤ k := by omega
      obtain rfl : n = k := by omega
      obtain ⟨w2, rfl⟩ : ∃ w2 : World, w2 = wr := ⟨_, rfl⟩
      have hB2 : w.heap.size < w2.heap.size := hM.lt
      clear hlt
      go_wp2
      go_loopw [10, 54] (fun v i wr => ∃ k : Nat, k ≤ n ∧ i = .int .i64 k ∧ (∃ xs, wr.ownsRow w2.heap.size 33 3 v (selTo R country n k).length xs ∧ Opts wr R xs (selTo R country n k)) ∧ MapIs wr w.heap.size n (ch R country n) ∧ Below w.heap.size w wr ∧ w2.heap.size ≤ wr.heap.size) (fun _ i _ => n - (intOf i).toNat)
      case atStart => exact ⟨0, Nat.zero_le _, rfl, ⟨[], World.ownsRow_nil _ _ _ _, fun t i h => by cases h⟩, hM, hbr, Nat.le_refl _⟩
      case round =>
        clear hM hbr
        obtain ⟨k, hk, rfl, ⟨xs, hown, hopt⟩, hM, hbr, hsz⟩ := hrel
        by_cases hlt : k < n
        · obtain ⟨b, off, rfl, hb, hc⟩ := hs (by omega)
          have hlt' : (k : Int) < n := by omega
          have kc : ∀ o, wr.cell? ⟨b, o, none⟩ = w.cell? ⟨b, o, none⟩ := fun o => hbr.cell (p := ⟨b, o, none⟩) hb
          obtain ⟨d0, d1, d2, d3, d4⟩ := hc k hlt
          rw [← kc] at d0 d1 d2 d3 d4
          have hlk := HL.out k hlt
          have hsl := selTo_length R country n k
          have hsw := hbr.size
          clear hs hc kc
          cases hq : ch R country n (key R k) with
          | none =>
            have HQ : Hid _ := hq
            have HS : Hid (selF R country n k = false) := by show _ = _; rw [selF, hq]; rfl
            clear hq
            go_wp2_with (first
              | (at_lookup; (with_reducible refine wpList_look_none rfl _ _ rfl w.heap.size n (ch R country n) ?_ (hM.alloc _) (R.lv k) ?_ hlk ?_ ?_); rfl; rfl; exact HQ.out; intro c1))
            go_roundw
            case rel =>
              have hsel := selTo_miss R country (n := n) (k := k) HS.out
              exact ⟨k + 1, by omega, by go_num, by rw [hsel]; exact ⟨xs, hown.alloc _, hopt.kept fun g p h => keep_alloc _ h⟩, hM.alloc _, hbr.alloc hsw _, by simp; omega⟩
            case measure => simp [intOf]; omega
          | some j =>
            have HQ : Hid _ := hq
            by_cases e : j = k
            · have HS : Hid (selF R country n k = true) := by show _ = _; rw [selF, hq, e]; simp
              have e' : ((j : Int) == k) = true := by rw [beq_iff_eq]; omega
              clear hq e
              go_wp2_with (first
                | (at_lookup; (with_reducible refine wpList_look_some rfl _ _ rfl w.heap.size n (ch R country n) ?_ (hM.alloc _) (R.lv k) ?_ hlk j ?_ ?_); rfl; rfl; exact HQ.out)
                | (at_builtin; refine wpList_append_own _ rfl _ _ 24 rfl w2.heap.size 33 i0 _ 3 56 Try.underlying24 hi hz0 hz1 hz2 rfl (by decide) _ _ _ rfl (((hown.alloc _).alloc _).alloc _) ⟨wr.heap.size + 2, 0, none⟩ 1 1 [.string (R.id k), .string (R.tt k), .slice (some ⟨wr.heap.size + 1, 0, none⟩) 2 2] rfl rfl (news_cells _ [.string (R.id k), .string (R.tt k), .slice (some ⟨wr.heap.size + 1, 0, none⟩) 2 2] 33 _ (by simp)) (by simp [Value.oneCell']) (by unfold maxLen; omega) (by omega) (by simp; omega) ?_; intro v' w1 hown' hgrow hnil))
              go_roundw
              case rel =>
                have hsel := selTo_hit R country (n := n) (k := k) HS.out
                have ho3 := ((hown.alloc (.cells #[.string (R.id k), .string (R.cc k), .string (R.lv k), .int .i64 (R.pr k), .string (R.tt k)] 49)).alloc (.cells (totals (R.pr k)) 54)).alloc (.cells #[.string (R.id k), .string (R.tt k), .slice (some ⟨wr.heap.size + 1, 0, none⟩) 2 2] 33)
                have hT : w1.heap[wr.heap.size + 1]? = some (.cells (totals (R.pr k)) 54 (0, 0)) := keep_totals ho3 hgrow _ _ (keep_alloc _ (heap_alloc2_new _ _ _))
                have hO : Opts w1 R xs (selTo R country n k) := hopt.kept fun g p h => keep_totals ho3 hgrow g p (keep_alloc _ (keep_alloc _ (keep_alloc _ h)))
                have hR : (∃ xs, w1.ownsRow w2.heap.size 33 3 v' (selTo R country n (k + 1)).length xs ∧ Opts w1 R xs (selTo R country n (k + 1))) ∧ MapIs w1 w.heap.size n (ch R country n) ∧ Below w.heap.size w w1 ∧ w2.heap.size ≤ w1.heap.size :=
                  ⟨⟨_, by rw [hsel, List.length_append]; exact hown', by rw [hsel]; exact hO.snoc hown.1 k _ hT⟩, (((hM.alloc _).alloc _).alloc _).kept hgrow (own_ne hown hB2), (((hbr.alloc hsw _).alloc (by simp; omega) _).alloc (by simp; omega) _).grown hgrow (by simp; omega) (fun q hq => by have := (hown.lt q hq).1; omega), by have := hgrow.size; simp at this; omega⟩
                first | exact ⟨k + 1, by omega, by go_num, hR⟩ | ((repeat apply Exists.intro); refine and_flip rfl ?_; exact ⟨k + 1, by omega, by go_num, hR⟩)
              case measure => simp [intOf]; omega
            · have HS : Hid (selF R country n k = false) := by show _ = _; rw [selF, hq]; simp [e]
              have e' : ((j : Int) == k) = false := by rw [beq_eq_false_iff_ne]; omega
              clear hq e
              go_wp2_with (first
                | (at_lookup; (with_reducible refine wpList_look_some rfl _ _ rfl w.heap.size n (ch R country n) ?_ (hM.alloc _) (R.lv k) ?_ hlk j ?_ ?_); rfl; rfl; exact HQ.out))
              go_roundw
              case rel =>
                have hsel := selTo_miss R country (n := n) (k := k) HS.out
                exact ⟨k + 1, by omega, by go_num, by rw [hsel]; exact ⟨xs, hown.alloc _, hopt.kept fun g p h => keep_alloc _ h⟩, hM.alloc _, hbr.alloc hsw _, by simp; omega⟩
              case measure => simp [intOf]; omega
        · have hge : (n : Int) ≤ k := by omega
          obtain rfl : n = k := by omega
          clear hlt
          go_wp2
          go_ret
          exact ⟨_, xs, rfl, ownsRow_base hown (by omega), hopt, hbr⟩

theorem zzShipping10 (a : Option Addr) (n c : Nat) (country : ByteArray) (R : Ship) (w : World) (hs : ShipRows w a n R) (hn : n ≤ 1048576) (hl : ∀ i, i < n → (R.lv i).size ≤ maxLen) :
    Calls Try.prog 10 #[.slice a n c, .string country] w fun e w' => ∃ v xs, e = .returned v ∧ w'.ownsRow w.heap.size 33 3 v (selTo R country n n).length xs ∧ Opts w' R xs (selTo R country n n) ∧ Below w.heap.size w w' := by
  have HL : Hid _ := hl
  clear hl
  go_enter Try.func10, Try.ntmps10
  go_wp2_with fail
  refine (shipping26 a n c country R w hs hn HL.out).mono ?_
  rintro e w1 ⟨v, xs, rfl, h1, h2, h3⟩
  go_wp2
  go_ret
  exact ⟨_, xs, rfl, h1, h2, h3⟩
end Go.Proofs.Qxb6600975a
