import Derived.Test.Qxb6600591aIs2
namespace Go.Proofs.Qxb6600591a
open Go.RowKit

theorem wpList_store_row_abs {P : Program} {ops : Array Oper} {rest : List Oper} {o : Oper} {a : Act} {w : World} {Q : Exit → Act → World → Prop} (hgd : o.guard = none) (ty : TypeId) (x y : Operand) (ho : o.op = .store ty x y)
    (g : Nat) (cells : Array Value) (hx : a.eval x = .pointer (some ⟨g, 0, none⟩)) (hy : a.eval y = .agg cells)
    (t : TypeId) (hg : ∃ old : Array Value, w.heap[g]? = some (.cells old t (0, 0)) ∧ old.size = cells.size) (hi : (P.info? ty).map (·.size) = some cells.size)
    (h1 : cells.all (·.oneCell') = true)
    (h : ∀ w', w'.heap[g]? = some (.cells cells t (0, 0)) → Below g w w' → w'.heap.size = w.heap.size → wpList P ops Q rest (a.put o.dst undef) w') : wpList P ops Q (o :: rest) a w := by
  obtain ⟨old, hg, hold⟩ := hg
  exact wpList_plain hgd fun _ hK => wp_store_row ty x y ho g cells hx hy t old hg hi hold h1
    (hK _ _ (h _ (setRow_heap w g old cells t (0, 0) hg) ⟨rfl, rfl, rfl, by simp, fun k hk => setRow_other w g k cells (by omega)⟩ (by simp)))

theorem zzBytes7 (id stale q : ByteArray) (m : Int) (cs : List Value) (w : World) :
    Calls Try.prog 7 #[.string id, .string stale, .int .u8 m, .agg cs.toArray, .string q] w fun e w' => (∃ b : Bool, e = .returned (.bool b)) ∧ Below w.heap.size w w' := by
  go_enter Try.func7, Try.ntmps7
  go_wp2
  all_goals
    go_ret
    exact ⟨⟨_, rfl⟩, (Below.refl _ _).alloc (Nat.le_refl _) _⟩

/-- The bytes of a string as cells. -/
def idv (id : ByteArray) : List Value := id.data.toList.map fun c => Value.int .u8 (c.toNat : Int)
def idn (id : ByteArray) : List Int := id.data.toList.map fun c => (c.toNat : Int)
theorem idv_length (id : ByteArray) : (idv id).length = id.size := by unfold idv; rw [List.length_map]; exact Array.length_toList
theorem idn_length (id : ByteArray) : (idn id).length = id.size := by unfold idn; rw [List.length_map]; exact Array.length_toList
theorem ofNat_cast (c : UInt8) : UInt8.ofNat (c.toNat : Int).toNat = c := by rw [Int.toNat_natCast, UInt8.ofNat_toNat]
theorem strOfNums_idn (id : ByteArray) : strOfNums (idn id) = id := by
  unfold strOfNums idn
  rw [List.map_map]
  have e : ∀ l : List UInt8, l.map ((fun n : Int => UInt8.ofNat n.toNat) ∘ fun c : UInt8 => (c.toNat : Int)) = l := by
    intro l
    induction l with
    | nil => rfl
    | cons c l ih => rw [List.map_cons, ih]; exact congrArg (· :: l) (ofNat_cast c)
  rw [e, Array.toArray_toList]
theorem idv_get (id : ByteArray) (k : Nat) (h : k < id.size) : (idv id)[k]? = some (.int .u8 (id[k].toNat : Int)) := by
  have h' : k < id.data.toList.length := by rw [Array.length_toList]; exact h
  rw [idv, List.getElem?_map, List.getElem?_eq_getElem h']; rfl
theorem idv_idn (id : ByteArray) (k : Nat) (h : k < id.size) : (idv id)[k]? = some (.int .u8 ((idn id).getD k 0)) := by
  have h' : k < id.data.toList.length := by rw [Array.length_toList]; exact h
  rw [idv, idn, List.getElem?_map, List.getElem?_eq_getElem h', List.getD, List.getElem?_map, List.getElem?_eq_getElem h']; rfl
theorem eq_symm (a b : ByteArray) : (a.toList == b.toList) = (b.toList == a.toList) := by
  exact Bool.eq_iff_iff.2 ⟨fun h => beq_iff_eq.2 (beq_iff_eq.1 h).symm, fun h => beq_iff_eq.2 (beq_iff_eq.1 h).symm⟩

/-- The row of codes when the first k bytes of the ID have been copied ahead of the tail. -/
def rowAt (id : ByteArray) (cs : List Value) (k : Nat) : List Value := (idv id).take k ++ cs.drop k
theorem rowAt_length {id : ByteArray} {cs : List Value} {k : Nat} (h : cs.length = 29) (hk : k ≤ id.size) (h29 : id.size ≤ 29) : (rowAt id cs k).length = 29 := by
  rw [rowAt, List.length_append, List.length_take, List.length_drop, idv_length]; omega
theorem rowAt_zero (id : ByteArray) (cs : List Value) : rowAt id cs 0 = cs := by simp [rowAt]
theorem rowAt_get {id : ByteArray} {cs : List Value} {k i : Nat} (hk : k ≤ id.size) (hi : i < k) : (rowAt id cs k)[i]? = (idv id)[i]? := by
  rw [rowAt, List.getElem?_append_left (by rw [List.length_take, idv_length]; omega), List.getElem?_take, if_pos hi]
theorem rowAt_step {id : ByteArray} {cs : List Value} {k : Nat} (h : cs.length = 29) (hk : k < id.size) (h29 : id.size ≤ 29) :
    (rowAt id cs k).toArray.setIfInBounds k (.int .u8 (id[k].toNat : Int)) = (rowAt id cs (k + 1)).toArray := by
  rw [List.setIfInBounds_toArray]
  congr 1
  have hl := idv_length id
  have e1 : (idv id).take (k + 1) = (idv id).take k ++ [.int .u8 (id[k].toNat : Int)] := by
    rw [List.take_add_one, idv_get id k hk]; rfl
  have e2 : cs.drop k = cs[k]'(by omega) :: cs.drop (k + 1) := List.drop_eq_getElem_cons (by omega)
  have e3 : k - ((idv id).take k).length = 0 := by rw [List.length_take, hl]; omega
  rw [rowAt, rowAt, e1, e2, List.set_append_right _ _ (by rw [List.length_take, hl]; omega), e3]
  rw [List.append_assoc]; rfl

theorem row_setCell {W : World} {g i : Nat} {cur : Array Value} {t : TypeId} {fr : Nat × Nat} (v : Value) (hg : W.heap[g]? = some (.cells cur t fr)) : (W.setCell ⟨g, i, none⟩ v).heap[g]? = some (.cells (cur.setIfInBounds i v) t fr) := by
  rw [setCell_eq_setRow W g i cur t fr v hg]; exact setRow_heap W g cur _ t fr hg
theorem row_cell {W : World} {g i : Nat} {cs : List Value} {t : TypeId} {fr : Nat × Nat} (hg : W.heap[g]? = some (.cells cs.toArray t fr)) (hi : i < cs.length) : ∃ v, W.cell? ⟨g, i, none⟩ = some v := by
  refine ⟨cs[i], ?_⟩
  rw [cell_of_row W g i _ t fr hg]; simp [hi]
theorem row_free {W : World} {g i : Nat} {cs : Array Value} {t : TypeId} (hg : W.heap[g]? = some (.cells cs t (0, 0))) : W.frozen? ⟨g, i, none⟩ = false := by
  simp [World.frozen?, hg]

theorem orderIs_own (stale id q : ByteArray) (m : Int) (cs : List Value) (h : cs.length = 29) (h0 : 1 ≤ id.size) (h29 : id.size ≤ 29) (w : World) :
    Calls Try.prog 8 #[.string stale, .int .u8 (id.size : Int), .int .u8 m, .agg (rowAt id cs id.size).toArray, .string q] w fun e w' => e = .returned (.bool (q.toList == id.toList)) ∧ Below w.heap.size w w' := by
  have := orderIs_codes stale q id.size m (idn id) (rowAt id cs id.size) (rowAt_length h (Nat.le_refl _) h29) h0 h29 (idn_length id) (fun i hi => by rw [rowAt_get (Nat.le_refl _) hi, idv_idn id i hi]) w
  rw [strOfNums_idn, eq_symm] at this
  exact this
theorem orderIs_plain (id q : ByteArray) (m : Int) (cs : List Value) (h : cs.length = 29) (w : World) :
    Calls Try.prog 8 #[.string id, .int .u8 0, .int .u8 m, .agg cs.toArray, .string q] w fun e w' => e = .returned (.bool (q.toList == id.toList)) ∧ Below w.heap.size w w' := by
  have := orderIs_id id q m cs h w
  rw [eq_symm] at this
  exact this

set_option maxHeartbeats 800000 in
theorem walkIs (id stale q : ByteArray) (m : Int) (cs : List Value) (h : cs.length = 29) (hcs : cs.toArray.all (·.oneCell') = true) (w : World) :
    Calls Try.prog 3 #[.string id, .string stale, .int .u8 m, .agg cs.toArray, .string q] w fun e w' => e = .returned (.bool true) ∧ Below w.heap.size w w' := by
  have hi := info22 h
  have H : Hid _ := h
  clear h
  go_enter Try.func3, Try.ntmps3
  go_wp2_with (first
    | ((with_reducible refine wpList_load_row rfl 22 (.tmp 8) rfl w.heap.size ?_ 22 cs.toArray (0, 0) _ ?_ Try.underlying22 ?_ hi ?_); rfl; exact (heap_alloc_new _ _); rfl))
  refine (zzBytes7 id stale q m cs _).mono ?_
  rintro e w1 ⟨⟨b, rfl⟩, hb⟩
  have hB : w1.heap[w.heap.size]? = some (.cells cs.toArray 22 (0, 0)) := (hb.block w.heap.size (by simp)).trans (heap_alloc_new _ _)
  have hbel : Below w.heap.size w w1 := ((Below.refl _ _).alloc (Nat.le_refl _) _).trans (hb.mono (by simp))
  have hsz : w.heap.size < w1.heap.size := by have := hb.size; simp at this; omega
  clear hb
  cases b
  · go_wp2
    go_ret
    exact ⟨rfl, hbel⟩
  by_cases g1 : (262144 : Int) < id.size
  · go_wp2
    go_ret
    exact ⟨rfl, hbel⟩
  by_cases g2 : (262144 : Int) < stale.size
  · go_wp2
    go_ret
    exact ⟨rfl, hbel⟩
  by_cases g3 : (262144 : Int) < q.size
  · go_wp2
    go_ret
    exact ⟨rfl, hbel⟩
  by_cases g4 : id.size = 0
  · have g4' : (id.size : Int) < 1 := by omega
    clear g4
    go_wp2_with (first
      | ((with_reducible refine wpList_load_row rfl 22 (.tmp 8) rfl w.heap.size ?_ 22 cs.toArray (0, 0) _ ?_ Try.underlying22 ?_ hi ?_); rfl; exact hB; rfl))
    refine (orderIs_plain id q 0 cs H.out _).mono ?_
    rintro e w2 ⟨rfl, hb2⟩
    go_wp2
    go_ret
    exact ⟨by simp, hbel.trans (hb2.mono (by omega))⟩
  by_cases g5 : (29 : Int) < id.size
  · have g4' : (1 : Int) ≤ id.size := by omega
    clear g4
    go_wp2_with (first
      | ((with_reducible refine wpList_load_row rfl 22 (.tmp 8) rfl w.heap.size ?_ 22 cs.toArray (0, 0) _ ?_ Try.underlying22 ?_ hi ?_); rfl; exact hB; rfl))
    refine (orderIs_plain id q 0 cs H.out _).mono ?_
    rintro e w2 ⟨rfl, hb2⟩
    go_wp2
    go_ret
    exact ⟨by simp, hbel.trans (hb2.mono (by omega))⟩
  have g4' : (1 : Int) ≤ id.size := by omega
  clear g4
  go_wp2_with (first
      | ((with_reducible refine wpList_load_row rfl 22 (.tmp 8) rfl w.heap.size ?_ 22 cs.toArray (0, 0) _ ?_ Try.underlying22 ?_ hi ?_); rfl; exact hB; rfl)
      | ((with_reducible refine wpList_store_row_abs rfl 22 (.tmp 12) (.tmp 41) rfl w1.heap.size cs.toArray ?_ ?_ 22 ?_ hi hcs ?_); rfl; rfl; exact ⟨_, heap_alloc_new _ _, by simp [H.out]⟩; intro w2 hC hb2 hs2))
  have hbel2 : Below w.heap.size w w2 := (hbel.alloc (by omega) _).trans (hb2.mono (by omega))
  have hB2 : w2.heap[w.heap.size]? = some (.cells cs.toArray 22 (0, 0)) := (hb2.block _ hsz).trans ((Below.heap_alloc _ _ _ hsz).trans hB)
  have hs2' : w1.heap.size < w2.heap.size := by rw [hs2]; simp
  clear hb2 hs2 hB hbel
  go_loopw [13] (fun i wr => ∃ k : Nat, k ≤ id.size ∧ i = .int .i64 k ∧ wr.heap[w1.heap.size]? = some (.cells (rowAt id cs k).toArray 22 (0, 0)) ∧ wr.heap[w.heap.size]? = some (.cells cs.toArray 22 (0, 0)) ∧ Below w.heap.size w wr ∧ w1.heap.size < wr.heap.size) (fun i _ => id.size - (intOf i).toNat)
  case atStart => exact ⟨0, Nat.zero_le _, rfl, by rw [rowAt_zero]; exact hC, hB2, hbel2, hs2'⟩
  case round =>
    clear hC hB2 hbel2 hs2'
    obtain ⟨k, hk, rfl, hrow, hBr, hbr, hsr⟩ := hrel
    by_cases hlt : k < id.size
    · obtain ⟨v0, hc0⟩ := row_cell (i := k) hrow (by rw [rowAt_length H.out hk (by omega)]; omega)
      have hf0 := row_free (i := k) hrow
      have hlt' : (k : Int) < id.size := by omega
      have hk29 : (k : Int) < 29 := by omega
      go_wp2
      go_roundw
      case rel =>
        refine ⟨k + 1, by omega, by go_num, ?_, ?_, hbr.setCell (by show w.heap.size ≤ w1.heap.size; omega) _, by simpa using hsr⟩
        · rw [row_setCell _ hrow, rowAt_step H.out hlt (by omega)]
        · rw [Below.heap_setCell _ _ _ _ (by show w.heap.size ≠ w1.heap.size; omega)]; exact hBr
      case measure => simp [intOf]; omega
    · obtain rfl : k = id.size := by omega
      have hi2 : (Try.prog.info? 22).map (·.size) = some (rowAt id cs id.size).toArray.size := info22 (rowAt_length H.out (Nat.le_refl _) (by omega))
      go_wp2_with (first
        | ((with_reducible refine wpList_load_row rfl 22 (.tmp 12) rfl w1.heap.size ?_ 22 (rowAt id cs id.size).toArray (0, 0) _ ?_ Try.underlying22 ?_ hi2 ?_); rfl; exact hrow; rfl))
      refine (orderIs_own stale id q m cs H.out (by omega) (by omega) _).mono ?_
      rintro e w3 ⟨rfl, hb3⟩
      have hB3 : w3.heap[w.heap.size]? = some (.cells cs.toArray 22 (0, 0)) := (hb3.block _ (by omega)).trans hBr
      have hbel3 : Below w.heap.size w w3 := hbr.trans (hb3.mono (by omega))
      have hs3 := hb3.size
      clear hb3 hBr hbr
      go_wp2_with (first
        | ((with_reducible refine wpList_load_row rfl 22 (.tmp 8) rfl w.heap.size ?_ 22 cs.toArray (0, 0) _ ?_ Try.underlying22 ?_ hi ?_); rfl; exact hB3; rfl))
      refine (orderIs_plain id q 0 cs H.out _).mono ?_
      rintro e w4 ⟨rfl, hb4⟩
      go_wp2
      go_ret
      exact ⟨by simp, hbel3.trans (hb4.mono (by omega))⟩
end Go.Proofs.Qxb6600591a
