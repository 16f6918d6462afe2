import Derived.Test.Qxb6600591aFnIs
import Derived.Deep.OwnRows
import Derived.BigQuiet
namespace Go.Proofs.Qxb6600591a
open Go.RowKit

/-- heldBy of an unpacked order: the account's own text is asked. -/
theorem held_acct (b d : Nat) (N k : Nat) (own code : ByteArray) (w : World) (hk : k < N) (h2 : w.cell? ⟨b, 2, none⟩ = some (.int .i32 k)) (h5 : w.cell? ⟨b, 5, none⟩ = some (.int .u8 0)) (hd : w.cell? ⟨d, k * 4, none⟩ = some (.string own)) :
    Calls Try.prog 14 #[.pointer (some ⟨b, 0, none⟩), .string code, .slice (some ⟨d, 0, none⟩) N N] w fun e w' => e = .returned (.bool (own.toList == code.toList)) ∧ Below w.heap.size w w' := by
  have hk' : (k : Int) < N := by omega
  go_enter Try.func14, Try.ntmps14
  go_wp2
  go_ret
  exact ⟨rfl, Below.refl _ _⟩

theorem slice_sum (b off l m : Nat) (hn : l + m ≤ 29) (hne : l < 29) (W : World) : (Instr.sliceAt 22 (.pointer (some ⟨b, off, none⟩)) (some (.int .u8 l)) (some (.int .u8 ((l : Int) + m))) none).run Try.prog W = .ok (.slice (some ⟨b, off + l, none⟩) m (29 - l)) W := by
  have h := slice_lh b off l (l + m) (by omega) hn hne W
  rw [show ((l + m : Nat) : Int) = (l : Int) + m from by omega, show l + m - l = m from by omega] at h
  exact h
theorem slice_end (b off m : Nat) (hm : m = 0) (W : World) : (Instr.sliceAt 22 (.pointer (some ⟨b, off, none⟩)) (some (.int .u8 29)) (some (.int .u8 ((29 : Int) + m))) none).run Try.prog W = .ok (.slice (some ⟨b, off, none⟩) 0 0) W := by
  subst hm
  rw [run_sliceAt_array_lh W 22 ⟨b, off, none⟩ arr22 .u8 .u8 29 _ (by omega) (by omega) (by rw [len22]; omega), el22, size5, len22]
  simp [slicedAt, Result.andThen]

set_option maxHeartbeats 800000 in
theorem held_codes (b n m : Nat) (da : Option Addr) (dl dc : Nat) (xs : List Int) (code : ByteArray) (w : World) (hn : 0 < n) (hnm : n + m ≤ 29) (hx : xs.length = m) (h5 : w.cell? ⟨b, 5, none⟩ = some (.int .u8 n)) (h6 : w.cell? ⟨b, 6, none⟩ = some (.int .u8 m))
    (hc : ∀ i, i < m → w.cell? ⟨b, 7 + (n + i), none⟩ = some (.int .u8 (xs.getD i 0))) :
    Calls Try.prog 14 #[.pointer (some ⟨b, 0, none⟩), .string code, .slice da dl dc] w fun e w' => e = .returned (.bool ((strOfNums xs).toList == code.toList)) ∧ Below w.heap.size w w' := by
  by_cases hlt : n < 29
  · have hcv := run_convert_bytes_arg (P := Try.prog) w.drew 40 5 Try.underlying40 Try.underlying5 b (7 + n) m (29 - n) xs hx (fun i hi => by rw [Nat.add_assoc]; exact hc i hi) 9 Try.underlying9
    have hsl := slice_sum b 7 n m hnm hlt
    clear hc
    go_enter Try.func14, Try.ntmps14
    go_wp2
    go_region
    all_goals go_wp2
    all_goals go_ret
    all_goals exact ⟨rfl, (Below.refl _ _).drew⟩
  · obtain rfl : n = 29 := by omega
    obtain rfl : m = 0 := by omega
    have hcv := run_convert_bytes_arg (P := Try.prog) w.drew 40 5 Try.underlying40 Try.underlying5 b 7 0 0 xs hx (fun i hi => by omega) 9 Try.underlying9
    have hsl := slice_end b 7 0 rfl
    simp only [Int.natCast_zero, Int.add_zero] at hsl
    clear hc
    go_enter Try.func14, Try.ntmps14
    go_wp2
    go_region
    all_goals go_wp2
    all_goals go_ret
    all_goals exact ⟨rfl, (Below.refl _ _).drew⟩

/-! ### make, the world behind it under a name -/
theorem wpList_make_abs {P : Program} {ops : Array Oper} {rest : List Oper} {o : Oper} {a : Act} {w : World} {Q : Exit → Act → World → Prop} (hg : o.guard = none) (l c : Operand) (t : TypeId) (hop : o.op = Op.makeSlice t l c)
    (e : TypeId) (z : Value) (size bytes : Nat) (h1 : P.underlying t = some (.slice e)) (hinfo : (P.info? e).map (fun i => (i.zero, i.size, i.bytes)) = some (some z, size, bytes))
    (n : Nat) (L : Int) (hl : a.eval l = .int .i64 L) (hc : a.eval c = .int .i64 L) (hL : L = (n : Int)) (b2 : bytes * n ≤ 281474976710656) (b3 : n ≤ 9223372036854775807)
    (hK : ∀ w', w'.heap[w.heap.size]? = some (.cells (madeCells z.cells (n * size)) e (0, 0)) → Below w.heap.size w w' → w'.heap.size = w.heap.size + 1 → wpList P ops Q rest (a.put o.dst (.slice (some ⟨w.heap.size, 0, none⟩) n n)) w') :
    wpList P ops Q (o :: rest) a w := by
  obtain ⟨i, hi, hz, hs, hb⟩ := info_parts hinfo
  refine wpList_plain hg fun K hK' => ?_
  subst hL
  have hb' : (i.bytes : Int) * (n : Int) ≤ 281474976710656 := by
    have h : ((i.bytes * n : Nat) : Int) ≤ 281474976710656 := by rw [hb]; omega
    rwa [Int.natCast_mul] at h
  have hrun := run_make (P := P) w t e i z h1 hi hz .i64 .i64 n n (by omega) (Int.le_refl _) hb' (by omega)
  simp only [Int.toNat_natCast, hs] at hrun
  unfold Oper.wp
  simp [execOp, hop, hl, hc, hrun, Result.andThen]
  exact hK' _ _ (hK _ (heap_alloc_new _ _) ((Below.refl _ _).alloc (Nat.le_refl _) _) (by simp))
theorem made_rowIs {W : World} {b : Nat} {z : Array Value} {n : Nat} {e : TypeId} (h : W.heap[b]? = some (.cells (madeCells z n) e (0, 0))) : W.rowIs b e n (fun j => z[j % z.size]!) :=
  ⟨_, h, size_madeCells _ _, fun i hi => by simp [madeCells, hi]⟩

theorem info38 : (Try.prog.info? 38).map (fun i => (i.zero, i.size, i.bytes)) = some (some (.agg #[.string ⟨#[]⟩, .int .i64 0, .int .i64 0, .slice none 0 0]), 4, 56) := by kernel_rfl
theorem info9 : (Try.prog.info? 9).map (fun i => (i.zero, i.size, i.bytes)) = some (some (.string ⟨#[]⟩), 1, 16) := by kernel_rfl
theorem built_held (id : ByteArray) (acct n m : Int) (cs : List Value) (h : cs.length = 29) :
    Try.prog.built 34 [(0, .string id), (2, .int .i32 acct), (5, .int .u8 n), (6, .int .u8 m), (7, .agg cs.toArray)] = some (ordCells id acct n m cs) := by
  obtain ⟨c0, c1, c2, c3, c4, c5, c6, c7, c8, c9, c10, c11, c12, c13, c14, c15, c16, c17, c18, c19, c20, c21, c22, c23, c24, c25, c26, c27, c28, rfl⟩ := lit29 h
  kernel_rfl

theorem ord_cell {W : World} {b : Nat} {cs : Array Value} {v : Value} {i : Nat} (h : W.heap[b]? = some (.cells cs 34 (0, 0))) (e : cs[i]? = some v) : W.cell? ⟨b, i, none⟩ = some v := by
  rw [cell_of_row W b i cs 34 (0, 0) h]; exact e

set_option maxHeartbeats 800000 in
theorem orderHeld (id code : ByteArray) (acct n m : Int) (N : Nat) (cs : List Value) (h : cs.length = 29) (d : Nat) (acc : Nat → ByteArray) (hN : N ≤ 20000) (r : Bool) (w : World)
    (hd : d < w.heap.size) (hc : ∀ i, i < N → w.cell? ⟨d, i, none⟩ = some (.string (acc i)))
    (hcall : ∀ (b d1 : Nat) (W : World), W.heap[b]? = some (.cells (ordCells id acct n m cs) 34 (0, 0)) → (∀ t, t < N → W.cell? ⟨d1, t * 4, none⟩ = some (.string (acc t))) →
      Calls Try.prog 14 #[.pointer (some ⟨b, 0, none⟩), .string code, .slice (some ⟨d1, 0, none⟩) N N] W fun e w' => e = .returned (.bool r) ∧ Below W.heap.size W w') :
    Calls Try.prog 11 #[.string id, .int .i32 acct, .int .u8 n, .int .u8 m, .agg cs.toArray, .string code, .slice (some ⟨d, 0, none⟩) N N] w fun e w' => e = .returned (.bool r) ∧ Below w.heap.size w w' := by
  have hb := built_held id acct n m cs h
  have hi := info22 h
  generalize ordCells id acct n m cs = oc at hb hcall
  have HB : Hid _ := hb
  have HC : Hid _ := hc
  have HL : Hid _ := hcall
  clear h hc hcall hb
  go_enter Try.func11, Try.ntmps11
  go_wp2_with (first
    | ((with_reducible refine wpList_make_abs rfl (.tmp 19) (.tmp 19) 36 rfl 38 _ 4 56 Try.underlying36 info38 N (N : Int) ?_ ?_ rfl ?_ ?_ ?_); rfl; rfl; omega; omega; intro w1 hA hb1 hs1))
  have hsz : (w.alloc (.cells cs.toArray 22)).heap.size = w.heap.size + 1 := by simp
  have hB : w1.heap[w.heap.size]? = some (.cells cs.toArray 22 (0, 0)) := (hb1.block w.heap.size (by simp)).trans (heap_alloc_new _ _)
  have hbel : Below w.heap.size w w1 := ((Below.refl _ _).alloc (Nat.le_refl _) _).trans (hb1.mono (by simp))
  have hrow := made_rowIs hA
  rw [hsz] at hrow hs1
  clear hA hb1 hsz
  go_loopw [16] (fun i wr => ∃ k : Nat, k ≤ N ∧ i = .int .i64 k ∧ (∃ f, wr.rowIs (w.heap.size + 1) 38 (N * 4) f ∧ ∀ t, t < k → f (t * 4) = .string (acc t)) ∧ wr.heap[w.heap.size]? = some (.cells cs.toArray 22 (0, 0)) ∧ Below w.heap.size w wr ∧ w.heap.size + 1 < wr.heap.size) (fun i _ => N - (intOf i).toNat)
  case atStart => exact ⟨0, Nat.zero_le _, rfl, ⟨_, hrow, fun t ht => by omega⟩, hB, hbel, by omega⟩
  case round =>
    clear hrow hB hbel hs1
    obtain ⟨k, hk, rfl, ⟨f, hrow, hf⟩, hB, hbel, hs⟩ := hrel
    by_cases hlt : k < N
    · have hlt' : (k : Int) < N := by omega
      have hck : wr.cell? ⟨d, k, none⟩ = some (.string (acc k)) := (hbel.cell (by exact hd)).trans (HC.out k hlt)
      have c0 := hrow.cell (i := k * 4) (by omega)
      have c1 := hrow.cell (i := k * 4 + 1) (by omega)
      have c2 := hrow.cell (i := k * 4 + 2) (by omega)
      have c3 := hrow.cell (i := k * 4 + 3) (by omega)
      have f0 := hrow.frozen (k * 4)
      have f1 := hrow.frozen (k * 4 + 1)
      have f2 := hrow.frozen (k * 4 + 2)
      have f3 := hrow.frozen (k * 4 + 3)
      generalize f (k * 4) = q0 at c0
      generalize f (k * 4 + 1) = q1 at c1
      generalize f (k * 4 + 2) = q2 at c2
      generalize f (k * 4 + 3) = q3 at c3
      have HF : Hid _ := hf
      clear hf
      go_wp2
      go_roundw
      case rel =>
        have hne : ∀ X (V : World) (v : Value), (V.setCell ⟨w.heap.size + 1, X, none⟩ v).heap[w.heap.size]? = V.heap[w.heap.size]? := fun X V v => Below.heap_setCell _ _ _ _ (by show w.heap.size ≠ w.heap.size + 1; omega)
        refine ⟨k + 1, by omega, by go_num, ⟨_, (((hrow.set (k * 4) _).set (k * 4 + 1) _).set (k * 4 + 2) _).set (k * 4 + 3) _, ?_⟩, ?_, ?_, by simpa using hs⟩
        · intro t ht
          show (if t * 4 = k * 4 + 3 then _ else if t * 4 = k * 4 + 2 then _ else if t * 4 = k * 4 + 1 then _ else if t * 4 = k * 4 then _ else _) = _
          rw [if_neg (by omega), if_neg (by omega), if_neg (by omega)]
          by_cases e : t = k
          · subst e; rw [if_pos rfl]
          · rw [if_neg (by omega)]; exact HF.out t (by omega)
        · rw [hne, hne, hne, hne]; exact hB
        · exact (((hbel.setCell (by show w.heap.size ≤ w.heap.size + 1; omega) _).setCell (by show w.heap.size ≤ w.heap.size + 1; omega) _).setCell (by show w.heap.size ≤ w.heap.size + 1; omega) _).setCell (by show w.heap.size ≤ w.heap.size + 1; omega) _
      case measure => simp [intOf]; omega
    · obtain rfl : k = N := by omega
      have HF : Hid _ := hf
      clear hf
      go_wp2_with (first
        | ((with_reducible refine wpList_load_row rfl 22 (.tmp 11) rfl w.heap.size ?_ 22 cs.toArray (0, 0) _ ?_ Try.underlying22 ?_ hi ?_); rfl; exact hB; rfl)
        | ((with_reducible refine wpList_build_to rfl 34 _ rfl oc ?_ ?_); exact HB.out))
      refine (HL.out wr.heap.size (w.heap.size + 1) _ (heap_alloc_new _ _) ?_).mono ?_
      · intro t ht
        rw [(hrow.alloc _).cell (i := t * 4) (by omega), HF.out t ht]
      rintro e w' ⟨rfl, hw⟩
      go_wp2
      go_ret
      exact ⟨rfl, (hbel.alloc (by omega) _).trans (hw.mono (by simp; omega))⟩

theorem orderHeld_acct (id code : ByteArray) (kk N : Nat) (m : Int) (cs : List Value) (h : cs.length = 29) (d : Nat) (acc : Nat → ByteArray) (hN : N ≤ 20000) (hk : kk < N) (w : World)
    (hd : d < w.heap.size) (hc : ∀ i, i < N → w.cell? ⟨d, i, none⟩ = some (.string (acc i))) :
    Calls Try.prog 11 #[.string id, .int .i32 kk, .int .u8 0, .int .u8 m, .agg cs.toArray, .string code, .slice (some ⟨d, 0, none⟩) N N] w fun e w' => e = .returned (.bool (code.toList == (acc kk).toList)) ∧ Below w.heap.size w w' := by
  refine orderHeld id code kk 0 m N cs h d acc hN _ w hd hc fun b d1 W hW hacc => ?_
  rw [eq_symm code]
  exact held_acct b d1 N kk (acc kk) code W hk (ord_cell hW (ord2 id kk 0 m cs)) (ord_cell hW (ord5 id kk 0 m cs)) (hacc kk hk)

theorem orderHeld_codes (id owner code : ByteArray) (acct : Int) (N : Nat) (cs : List Value) (h : cs.length = 29) (h0 : 1 ≤ id.size) (h29 : id.size + owner.size ≤ 29) (hcs : ∀ i, i < owner.size → cs[id.size + i]? = (idv owner)[i]?) (d : Nat) (acc : Nat → ByteArray) (hN : N ≤ 20000) (w : World)
    (hd : d < w.heap.size) (hc : ∀ i, i < N → w.cell? ⟨d, i, none⟩ = some (.string (acc i))) :
    Calls Try.prog 11 #[.string id, .int .i32 acct, .int .u8 (id.size : Int), .int .u8 (owner.size : Int), .agg cs.toArray, .string code, .slice (some ⟨d, 0, none⟩) N N] w fun e w' => e = .returned (.bool (code.toList == owner.toList)) ∧ Below w.heap.size w w' := by
  refine orderHeld id code acct id.size owner.size N cs h d acc hN _ w hd hc fun b d1 W hW hacc => ?_
  have := held_codes b id.size owner.size (some ⟨d1, 0, none⟩) N N (idn owner) code W h0 h29 (idn_length owner) (ord_cell hW (ord5 id acct id.size owner.size cs)) (ord_cell hW (ord6 id acct id.size owner.size cs))
    (fun i hi => ord_cell hW ((ord7 id acct id.size owner.size cs (id.size + i)).trans ((hcs i hi).trans (idv_idn owner i hi))))
  rw [strOfNums_idn, eq_symm] at this
  exact this
end Go.Proofs.Qxb6600591a
