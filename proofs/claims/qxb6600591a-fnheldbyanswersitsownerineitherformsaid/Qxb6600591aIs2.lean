import Derived.Test.Qxb6600591aIs
namespace Go.Proofs.Qxb6600591a
open Go.RowKit

theorem uncons {α : Type} {n : Nat} {l : List α} (h : l.length = n + 1) : ∃ a t, l = a :: t ∧ t.length = n := by
  cases l with
  | nil => simp at h
  | cons a t => exact ⟨a, t, rfl, by simpa using h⟩
theorem lit29 {l : List Value} (h : l.length = 29) : ∃ c0 c1 c2 c3 c4 c5 c6 c7 c8 c9 c10 c11 c12 c13 c14 c15 c16 c17 c18 c19 c20 c21 c22 c23 c24 c25 c26 c27 c28 : Value,
    l = [c0, c1, c2, c3, c4, c5, c6, c7, c8, c9, c10, c11, c12, c13, c14, c15, c16, c17, c18, c19, c20, c21, c22, c23, c24, c25, c26, c27, c28] := by
  obtain ⟨c0, l0, rfl, h0⟩ := uncons h
  obtain ⟨c1, l1, rfl, h1⟩ := uncons h0
  obtain ⟨c2, l2, rfl, h2⟩ := uncons h1
  obtain ⟨c3, l3, rfl, h3⟩ := uncons h2
  obtain ⟨c4, l4, rfl, h4⟩ := uncons h3
  obtain ⟨c5, l5, rfl, h5⟩ := uncons h4
  obtain ⟨c6, l6, rfl, h6⟩ := uncons h5
  obtain ⟨c7, l7, rfl, h7⟩ := uncons h6
  obtain ⟨c8, l8, rfl, h8⟩ := uncons h7
  obtain ⟨c9, l9, rfl, h9⟩ := uncons h8
  obtain ⟨c10, l10, rfl, h10⟩ := uncons h9
  obtain ⟨c11, l11, rfl, h11⟩ := uncons h10
  obtain ⟨c12, l12, rfl, h12⟩ := uncons h11
  obtain ⟨c13, l13, rfl, h13⟩ := uncons h12
  obtain ⟨c14, l14, rfl, h14⟩ := uncons h13
  obtain ⟨c15, l15, rfl, h15⟩ := uncons h14
  obtain ⟨c16, l16, rfl, h16⟩ := uncons h15
  obtain ⟨c17, l17, rfl, h17⟩ := uncons h16
  obtain ⟨c18, l18, rfl, h18⟩ := uncons h17
  obtain ⟨c19, l19, rfl, h19⟩ := uncons h18
  obtain ⟨c20, l20, rfl, h20⟩ := uncons h19
  obtain ⟨c21, l21, rfl, h21⟩ := uncons h20
  obtain ⟨c22, l22, rfl, h22⟩ := uncons h21
  obtain ⟨c23, l23, rfl, h23⟩ := uncons h22
  obtain ⟨c24, l24, rfl, h24⟩ := uncons h23
  obtain ⟨c25, l25, rfl, h25⟩ := uncons h24
  obtain ⟨c26, l26, rfl, h26⟩ := uncons h25
  obtain ⟨c27, l27, rfl, h27⟩ := uncons h26
  obtain ⟨c28, l28, rfl, h28⟩ := uncons h27
  obtain rfl : l28 = [] := List.eq_nil_of_length_eq_zero h28
  exact ⟨_, _, _, _, _, _, _, _, _, _, _, _, _, _, _, _, _, _, _, _, _, _, _, _, _, _, _, _, _, rfl⟩

/-- The cells of an order that ZZOrderIs lays. -/
def ordCells (id : ByteArray) (acct n m : Int) (cs : List Value) : Array Value := (Value.string id :: .int .i64 0 :: .int .i32 acct :: .int .u32 0 :: .bool false :: .int .u8 n :: .int .u8 m :: cs).toArray
theorem ordCells_size (id : ByteArray) (acct n m : Int) (cs : List Value) (h : cs.length = 29) : (ordCells id acct n m cs).size = 36 := by simp [ordCells, h]

theorem wpList_build_to {P : Program} {ops : Array Oper} {rest : List Oper} {o : Oper} {a : Act} {w : World} {Q : Exit → Act → World → Prop} (hg : o.guard = none) (t : TypeId) (parts : Array (Nat × Operand)) (ho : o.op = .build t parts)
    (cells : Array Value) (hc : P.built t (parts.toList.map fun p => (p.1, a.eval p.2)) = some cells) (h : wpList P ops Q rest (a.put o.dst (.agg cells)) w) : wpList P ops Q (o :: rest) a w := by
  have e : (parts.map fun (i, x) => (i, a.eval x)).toList = parts.toList.map fun p => (p.1, a.eval p.2) := by rw [Array.toList_map]
  exact wpList_build hg t parts ho (by rw [e, hc]; rfl) (by rw [e, hc]; exact h)
theorem built_is (id : ByteArray) (n m : Int) (cs : List Value) (h : cs.length = 29) :
    Try.prog.built 34 [(0, .string id), (5, .int .u8 n), (6, .int .u8 m), (7, .agg cs.toArray)] = some (ordCells id 0 n m cs) := by
  obtain ⟨c0, c1, c2, c3, c4, c5, c6, c7, c8, c9, c10, c11, c12, c13, c14, c15, c16, c17, c18, c19, c20, c21, c22, c23, c24, c25, c26, c27, c28, rfl⟩ := lit29 h
  kernel_rfl
theorem info22 {cs : List Value} (h : cs.length = 29) : (Try.prog.info? 22).map (·.size) = some cs.toArray.size := by
  have : (Try.prog.info? 22).map (·.size) = some 29 := by kernel_rfl
  rw [this]; simp [h]

theorem ord0 (id : ByteArray) (acct n m : Int) (cs : List Value) : (ordCells id acct n m cs)[0]? = some (.string id) := rfl
theorem ord2 (id : ByteArray) (acct n m : Int) (cs : List Value) : (ordCells id acct n m cs)[2]? = some (.int .i32 acct) := rfl
theorem ord5 (id : ByteArray) (acct n m : Int) (cs : List Value) : (ordCells id acct n m cs)[5]? = some (.int .u8 n) := rfl
theorem ord6 (id : ByteArray) (acct n m : Int) (cs : List Value) : (ordCells id acct n m cs)[6]? = some (.int .u8 m) := rfl
theorem ord7 (id : ByteArray) (acct n m : Int) (cs : List Value) (i : Nat) : (ordCells id acct n m cs)[7 + i]? = cs[i]? := by
  rw [Nat.add_comm 7 i]; simp [ordCells]
theorem cell_new (W : World) (c : Array Value) (t : TypeId) (i : Nat) : (W.alloc (.cells c t)).cell? ⟨W.heap.size, i, none⟩ = c[i]? := World.cell?_alloc_at c t _ i rfl
set_option maxHeartbeats 400000 in
theorem orderIs_id (id q : ByteArray) (m : Int) (cs : List Value) (h : cs.length = 29) (w : World) :
    Calls Try.prog 8 #[.string id, .int .u8 0, .int .u8 m, .agg cs.toArray, .string q] w fun e w' => e = .returned (.bool (id.toList == q.toList)) ∧ Below w.heap.size w w' := by
  have hb := built_is id 0 m cs h
  have h0 := ord0 id 0 0 m cs
  have h5 := ord5 id 0 0 m cs
  have hi := info22 h
  clear h
  generalize ordCells id 0 0 m cs = oc at hb h0 h5
  have HB : Hid _ := hb
  clear hb
  go_enter Try.func8, Try.ntmps8
  go_wp2_with (first
    | ((with_reducible refine wpList_load_row rfl 22 (.tmp 8) rfl w.heap.size ?_ 22 cs.toArray (0, 0) _ ?_ Try.underlying22 ?_ hi ?_); rfl; exact (heap_alloc_new _ _); rfl)
    | ((with_reducible refine wpList_build_to rfl 34 _ rfl oc ?_ ?_); exact HB.out))
  refine (is_id (w.heap.size + 1) id q _ ?_ ?_).mono ?_
  · simpa using h0
  · simpa using h5
  rintro e w' ⟨rfl, hw⟩
  go_wp2
  go_ret
  exact ⟨rfl, (((Below.refl _ _).alloc (Nat.le_refl _) _).alloc (by simp) _).trans (hw.mono (by simp; omega))⟩

set_option maxHeartbeats 400000 in
theorem orderIs_codes (id q : ByteArray) (n : Nat) (m : Int) (xs : List Int) (cs : List Value) (h : cs.length = 29) (hn : 0 < n) (hn' : n ≤ 29) (hx : xs.length = n) (hc : ∀ i, i < n → cs[i]? = some (.int .u8 (xs.getD i 0))) (w : World) :
    Calls Try.prog 8 #[.string id, .int .u8 n, .int .u8 m, .agg cs.toArray, .string q] w fun e w' => e = .returned (.bool ((strOfNums xs).toList == q.toList)) ∧ Below w.heap.size w w' := by
  have hb := built_is id n m cs h
  have h5 := ord5 id 0 n m cs
  have h7 : ∀ i, i < n → (ordCells id 0 n m cs)[7 + i]? = some (.int .u8 (xs.getD i 0)) := fun i hi => (ord7 id 0 n m cs i).trans (hc i hi)
  have hi := info22 h
  clear h hc
  generalize ordCells id 0 n m cs = oc at hb h5 h7
  have HB : Hid _ := hb
  have H7 : Hid _ := h7
  clear hb h7
  go_enter Try.func8, Try.ntmps8
  go_wp2_with (first
    | ((with_reducible refine wpList_load_row rfl 22 (.tmp 8) rfl w.heap.size ?_ 22 cs.toArray (0, 0) _ ?_ Try.underlying22 ?_ hi ?_); rfl; exact (heap_alloc_new _ _); rfl)
    | ((with_reducible refine wpList_build_to rfl 34 _ rfl oc ?_ ?_); exact HB.out))
  refine (is_codes (w.heap.size + 1) n xs q _ hn hn' hx ?_ ?_).mono ?_
  · simpa using h5
  · intro i hi'
    rw [World.cell?_alloc_at oc 34 (w.heap.size + 1) (7 + i) (by simp)]
    exact H7.out i hi'
  rintro e w' ⟨rfl, hw⟩
  go_wp2
  go_ret
  exact ⟨rfl, (((Below.refl _ _).alloc (Nat.le_refl _) _).alloc (by simp) _).trans (hw.mono (by simp; omega))⟩
end Go.Proofs.Qxb6600591a
