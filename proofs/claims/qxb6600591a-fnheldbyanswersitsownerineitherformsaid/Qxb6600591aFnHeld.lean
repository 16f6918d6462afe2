import Derived.Test.Qxb6600591aHeld
import Derived.Deep.DeepCutAuto
namespace Go.Proofs.Qxb6600591a
open Go.RowKit

/-- A slice of strings: where it has elements they lie at its address, below the heap's end. -/
def Strs (w : World) (a : Option Addr) (n : Nat) (ss : Nat → ByteArray) : Prop :=
  0 < n → ∃ b off, a = some ⟨b, off, none⟩ ∧ b < w.heap.size ∧ ∀ i, i < n → w.cell? ⟨b, off + i, none⟩ = some (.string (ss i))
theorem Strs.later {w w' : World} {a : Option Addr} {n : Nat} {ss : Nat → ByteArray} (h : Strs w a n ss) (hb : Below w.heap.size w w') : Strs w' a n ss := by
  intro hn
  obtain ⟨b, off, ha, hlt, hc⟩ := h hn
  exact ⟨b, off, ha, Nat.lt_of_lt_of_le hlt hb.size, fun i hi => (hb.cell (p := ⟨b, off + i, none⟩) hlt).trans (hc i hi)⟩

/-- The call has handed back a bool. -/
def IsBool (e : Ending) : Prop := ∃ b : Bool, e = .returned (.bool b)

set_option maxHeartbeats 800000 in
theorem zzBytes10 (id owner code : ByteArray) (a : Option Addr) (n c : Nat) (ss : Nat → ByteArray) (pos : Int) (cs : List Value) (w : World) (hs : Strs w a n ss) :
    Calls Try.prog 10 #[.string id, .string owner, .string code, .slice a n c, .int .u16 pos, .agg cs.toArray] w fun e w' => IsBool e ∧ Below w.heap.size w w' := by
  go_enter Try.func10, Try.ntmps10
  go_wp2
  all_goals first
    | (go_ret; exact ⟨⟨_, rfl⟩, (Below.refl _ _).alloc (Nat.le_refl _) _⟩)
    | skip
  go_loop [13, 14] (fun z i => ∃ (k : Nat) (q : Int), k ≤ n ∧ i = .int .i64 k ∧ z = .int .i64 q) (fun _ i => n - (intOf i).toNat)
  case atStart => exact ⟨0, _, Nat.zero_le _, rfl, rfl⟩
  case round =>
    obtain ⟨k, q, hk, rfl, rfl⟩ := hrel
    by_cases hlt : k < n
    · obtain ⟨b, off, rfl, hb, hc⟩ := hs (by omega)
      have hck : (w.alloc (.cells cs.toArray 22)).cell? ⟨b, off + k, none⟩ = some (.string (ss k)) := by
        rw [World.cell?_alloc_past _ _ _ hb]; exact hc k hlt
      have hlt' : (k : Int) < n := by omega
      clear hs hc
      go_wp2
      all_goals first
        | (go_ret; exact ⟨⟨_, rfl⟩, (Below.refl _ _).alloc (Nat.le_refl _) _⟩)
        | skip
      all_goals
        go_round
        case rel => exact ⟨k + 1, _, by omega, by go_num, rfl⟩
        case measure => simp [intOf]; omega
    · go_wp2
      go_ret
      exact ⟨⟨_, rfl⟩, (Below.refl _ _).alloc (Nat.le_refl _) _⟩

/-- The accounts' texts: the owner's at its place among the others'. -/
def accOf (owner : ByteArray) (ss : Nat → ByteArray) (kk t : Nat) : ByteArray := if t = kk then owner else if t < kk then ss t else ss (t - 1)
theorem accOf_same (owner : ByteArray) (ss : Nat → ByteArray) (kk : Nat) : accOf owner ss kk kk = owner := if_pos rfl
theorem accOf_lt {owner : ByteArray} {ss : Nat → ByteArray} {kk t : Nat} (h : t < kk) : accOf owner ss kk t = ss t := by
  unfold accOf; rw [if_neg (by omega), if_pos h]
theorem accOf_gt {owner : ByteArray} {ss : Nat → ByteArray} {kk t j : Nat} (h : kk < t) (hj : t = j + 1) : accOf owner ss kk t = ss j := by
  unfold accOf; rw [if_neg (by omega), if_neg (by omega), hj]; rfl
theorem row_next {f : Nat → Value} {g : Nat → ByteArray} {k : Nat} {v : Value} (hf : ∀ t, t < k → f t = .string (g t)) (hv : v = .string (g k)) : ∀ t, t < k + 1 → (if t = k then v else f t) = .string (g t) := by
  intro t ht
  by_cases e : t = k
  · subst e; rw [if_pos rfl]; exact hv
  · rw [if_neg e]; exact hf t (by omega)

/-- The row of codes when the ID and the first k bytes of the owner's code have been copied ahead of the tail. -/
def rowAt2 (id owner : ByteArray) (cs : List Value) (k : Nat) : List Value := idv id ++ ((idv owner).take k ++ cs.drop (id.size + k))
theorem rowAt2_length {id owner : ByteArray} {cs : List Value} {k : Nat} (h : cs.length = 29) (hk : k ≤ owner.size) (h29 : id.size + owner.size ≤ 29) : (rowAt2 id owner cs k).length = 29 := by
  rw [rowAt2, List.length_append, List.length_append, List.length_take, List.length_drop, idv_length, idv_length]; omega
theorem rowAt2_zero (id owner : ByteArray) (cs : List Value) : rowAt2 id owner cs 0 = rowAt id cs id.size := by
  rw [rowAt2, rowAt, List.take_of_length_le (l := idv id) (by rw [idv_length]; omega), List.take_zero, List.nil_append, Nat.add_zero]
theorem rowAt2_get {id owner : ByteArray} {cs : List Value} {k i : Nat} (hk : k ≤ owner.size) (hi : i < k) : (rowAt2 id owner cs k)[id.size + i]? = (idv owner)[i]? := by
  rw [rowAt2, List.getElem?_append_right (by rw [idv_length]; omega), idv_length, show id.size + i - id.size = i from by omega, List.getElem?_append_left (by rw [List.length_take, idv_length]; omega), List.getElem?_take, if_pos hi]
theorem rowAt2_step {id owner : ByteArray} {cs : List Value} {k : Nat} (h : cs.length = 29) (hk : k < owner.size) (h29 : id.size + owner.size ≤ 29) :
    (rowAt2 id owner cs k).toArray.setIfInBounds (id.size + k) (.int .u8 (owner[k].toNat : Int)) = (rowAt2 id owner cs (k + 1)).toArray := by
  rw [List.setIfInBounds_toArray]
  congr 1
  have hl := idv_length owner
  have hl0 := idv_length id
  have e1 : (idv owner).take (k + 1) = (idv owner).take k ++ [.int .u8 (owner[k].toNat : Int)] := by
    rw [List.take_add_one, idv_get owner k hk]; rfl
  have e2 : cs.drop (id.size + k) = cs[id.size + k]'(by omega) :: cs.drop (id.size + (k + 1)) := List.drop_eq_getElem_cons (by omega)
  have e3 : k - ((idv owner).take k).length = 0 := by rw [List.length_take, hl]; omega
  rw [rowAt2, rowAt2, e1, e2, List.set_append_right _ _ (by rw [hl0]; omega), hl0, show id.size + k - id.size = k from by omega, List.set_append_right _ _ (by rw [List.length_take, hl]; omega), e3]
  rw [List.append_assoc ((idv owner).take k)]; rfl

theorem neq26 (w : World) (a : Option Addr) (n c n' c' : Nat) : (binOp .neq 26 (.slice a n c) (.slice none n' c')).run Try.prog w = .ok (.bool (!a.isNone)) w := run_neq_slice_nil_any w 26 9 a n c n' c' Try.underlying26

set_option maxRecDepth 100000 in
set_option maxHeartbeats 2000000 in
theorem walkHeld (id owner code : ByteArray) (a : Option Addr) (n c : Nat) (ss : Nat → ByteArray) (pos : Int) (cs : List Value) (w : World) (hs : Strs w a n ss) (hnil : a = none → n = 0) (hp0 : 0 ≤ pos) (hp1 : pos ≤ 65535) (h : cs.length = 29) (hcs : cs.toArray.all (·.oneCell') = true) :
    Calls Try.prog 5 #[.string id, .string owner, .string code, .slice a n c, .int .u16 pos, .agg cs.toArray] w fun e w' => e = .returned (.bool true) ∧ Below w.heap.size w w' := by
  have hi := info22 h
  have qn := neq26
  have H : Hid _ := h
  have HN : Hid _ := hnil
  have HCS : Hid _ := hcs
  clear h hnil hcs
  go_enter Try.func5, Try.ntmps5
  go_wp2_with (first
    | ((with_reducible refine wpList_load_row rfl 22 (.tmp 11) rfl w.heap.size ?_ 22 cs.toArray (0, 0) _ ?_ Try.underlying22 ?_ hi ?_); rfl; exact (heap_alloc_new _ _); rfl))
  refine (zzBytes10 id owner code a n c ss pos cs _ (hs.later ((Below.refl _ _).alloc (Nat.le_refl _) _))).mono ?_
  rintro e w1 ⟨⟨b, rfl⟩, hb⟩
  have hB : w1.heap[w.heap.size]? = some (.cells cs.toArray 22 (0, 0)) := (hb.block w.heap.size (by simp)).trans (heap_alloc_new _ _)
  have hbel : Below w.heap.size w w1 := ((Below.refl _ _).alloc (Nat.le_refl _) _).trans (hb.mono (by simp))
  have hsz : w.heap.size < w1.heap.size := by have := hb.size; simp at this; omega
  have hs1 : Strs w1 a n ss := hs.later hbel
  clear hb hs
  cases b
  · go_wp2
    go_ret
    exact ⟨rfl, hbel⟩
  by_cases g1 : (262144 : Int) < id.size
  · go_wp2
    go_ret
    exact ⟨rfl, hbel⟩
  by_cases g2 : (262144 : Int) < owner.size
  · go_wp2
    go_ret
    exact ⟨rfl, hbel⟩
  by_cases g3 : (262144 : Int) < code.size
  · go_wp2
    go_ret
    exact ⟨rfl, hbel⟩
  by_cases g4 : (16384 : Int) < n
  · go_wp2
    go_ret
    exact ⟨rfl, hbel⟩
  go_wp2
  go_loop [13, 14] (fun z i => ∃ (k : Nat) (q : Int), k ≤ n ∧ i = .int .i64 k ∧ z = .int .i64 q) (fun _ i => n - (intOf i).toNat)
  case atStart => exact ⟨0, _, Nat.zero_le _, rfl, rfl⟩
  case round =>
    obtain ⟨k, q, hk, rfl, rfl⟩ := hrel
    by_cases hlt : k < n
    · obtain ⟨b, off, rfl, hb, hc⟩ := hs1 (by omega)
      have hck : w1.cell? ⟨b, off + k, none⟩ = some (.string (ss k)) := hc k hlt
      have hlt' : (k : Int) < n := by omega
      clear hs1 hc
      go_wp2
      · go_ret
        exact ⟨rfl, hbel⟩
      · go_round
        case rel => exact ⟨k + 1, _, by omega, by go_num, rfl⟩
        case measure => simp [intOf]; omega
    · have hge : (n : Int) ≤ k := by omega
      clear hlt
      go_upto_if 64 with fail
      clear hge hk
      go_cut [3, 15, 16] (fun s3 _ _ wx => ∃ a' c', s3 = .slice a' n c' ∧ Strs wx a' n ss ∧ wx.heap[w.heap.size]? = some (.cells cs.toArray 22 (0, 0)) ∧ Below w.heap.size w wx ∧ w.heap.size < wx.heap.size)
      case first =>
        cases a with
        | none =>
          go_wp2_with fail
          go_meet
          exact ⟨_, _, rfl, hs1, hB, hbel, hsz⟩
        | some ad =>
          go_wp2_with (first
            | ((with_reducible refine wpList_make_abs rfl (.tmp 66) (.tmp 66) 26 rfl 9 _ 1 16 Try.underlying26 info9 n (n : Int) ?_ ?_ rfl ?_ ?_ ?_); rfl; rfl; omega; omega; intro w2 hA hb2 hs2))
          have hrow := made_rowIs hA
          rw [Nat.mul_one] at hrow
          clear hA
          go_loopw [16] (fun i wr => ∃ k : Nat, k ≤ n ∧ i = .int .i64 k ∧ (∃ f, wr.rowIs w1.heap.size 9 n f ∧ ∀ t, t < k → f t = .string (ss t)) ∧ Below w1.heap.size w1 wr ∧ w1.heap.size < wr.heap.size) (fun i _ => n - (intOf i).toNat)
          case atStart => exact ⟨0, Nat.zero_le _, rfl, ⟨_, hrow, fun t ht => by omega⟩, hb2, by omega⟩
          case round =>
            clear hrow hb2 hs2
            obtain ⟨k, hk, rfl, ⟨f, hrow, hf⟩, hb2, hs2⟩ := hrel
            have HF : Hid _ := hf
            clear hf
            by_cases hlt : k < n
            · obtain ⟨b, off, hadd, hb, hc⟩ := hs1 (by omega)
              obtain rfl : ad = ⟨b, off, none⟩ := Option.some.inj hadd
              have hck : wr.cell? ⟨b, off + k, none⟩ = some (.string (ss k)) := (hb2.cell (by exact hb)).trans (hc k hlt)
              have c0 := hrow.cell hlt
              have f0 := hrow.frozen k
              generalize f k = q0 at c0
              have hlt' : (k : Int) < n := by omega
              clear hs1 hc hadd
              go_wp2
              go_roundw
              case rel =>
                refine ⟨k + 1, by omega, by go_num, ⟨_, hrow.set k _, ?_⟩, hb2.setCell (Nat.le_refl _) _, by simpa using hs2⟩
                intro t ht
                show (if t = k then _ else _) = _
                by_cases e : t = k
                · subst e; rw [if_pos rfl]
                · rw [if_neg e]; exact HF.out t (by omega)
              case measure => simp [intOf]; omega
            · have hge : (n : Int) ≤ k := by omega
              clear hlt
              go_wp2_with fail
              go_meet
              refine ⟨some ⟨w1.heap.size, 0, none⟩, n, rfl, fun _ => ⟨w1.heap.size, 0, rfl, hs2, fun t ht => ?_⟩, (hb2.block _ hsz).trans hB, hbel.trans (hb2.mono (by omega)), by omega⟩
              rw [Nat.zero_add, hrow.cell ht, HF.out t (by omega)]
      case rest =>
        obtain ⟨a', c', rfl, hs3, hB3, hbel3, hsz3⟩ := hcut
        clear hs1 hB hbel hsz
        have hm0 : 0 ≤ pos % ((n : Int) + 1) := Int.emod_nonneg _ (by omega)
        have hm1 : pos % ((n : Int) + 1) < (n : Int) + 1 := Int.emod_lt_of_pos _ (by omega)
        obtain ⟨kk, hkk⟩ : ∃ kk : Nat, pos % ((n : Int) + 1) = kk := ⟨(pos % ((n : Int) + 1)).toNat, by omega⟩
        rw [hkk] at hm0 hm1
        go_wp2_with (first
            | ((with_reducible refine wpList_make_abs rfl (.tmp 90) (.tmp 90) 26 rfl 9 _ 1 16 Try.underlying26 info9 (n + 1) ((n : Int) + 1) ?_ ?_ ?_ ?_ ?_ ?_); rfl; rfl; omega; omega; omega; intro w2 hA hb2 hs2))
        have hrow := made_rowIs hA
        rw [Nat.mul_one] at hrow
        clear hA
        have hkn : kk ≤ n := by omega
        have HK : Hid _ := hkk
        clear hkk
        go_loopw [19, 20] (fun j i wr => ∃ (k jj : Nat), k ≤ n + 1 ∧ i = .int .i64 k ∧ j = .int .i64 jj ∧ ((k ≤ kk ∧ jj = k) ∨ (kk < k ∧ k = jj + 1)) ∧ (∃ f, wr.rowIs wc.heap.size 9 (n + 1) f ∧ ∀ t, t < k → f t = .string (accOf owner ss kk t)) ∧ Below wc.heap.size wc wr ∧ wc.heap.size < wr.heap.size) (fun _ i _ => n + 1 - (intOf i).toNat)
        case atStart => exact ⟨0, 0, Nat.zero_le _, rfl, rfl, .inl ⟨Nat.zero_le _, rfl⟩, ⟨_, hrow, fun t ht => by omega⟩, hb2, by omega⟩
        case round =>
          clear hrow hb2 hs2
          obtain ⟨k, jj, hk, rfl, rfl, hj, ⟨f, hrow, hf⟩, hb2, hs2⟩ := hrel
          have HF : Hid _ := hf
          clear hf
          by_cases hlt : k < n + 1
          · have hlt' : (k : Int) < (n : Int) + 1 := by omega
            have c0 := hrow.cell hlt
            have f0 := hrow.frozen k
            generalize f k = q0 at c0
            by_cases e : k = kk
            · have HJ : Hid _ := hj
              clear hj
              have e' : ((k : Int) == kk) = true := by rw [beq_iff_eq]; omega
              have HE : Hid _ := e
              clear e
              go_wp2
              go_roundw
              case rel =>
                have e := HE.out
                have hj := HJ.out
                exact ⟨k + 1, jj, by omega, by go_num, rfl, by omega, ⟨_, hrow.set k _, row_next HF.out (by rw [e, accOf_same])⟩, hb2.setCell (Nat.le_refl _) _, by simpa using hs2⟩
              case measure => simp [intOf]; omega
            · obtain ⟨b, off, rfl, hb, hc⟩ := hs3 (by omega)
              have hjn : jj < n := by omega
              have hjn' : (jj : Int) < n := by omega
              have hck : wr.cell? ⟨b, off + jj, none⟩ = some (.string (ss jj)) := (hb2.cell (by exact hb)).trans (hc jj hjn)
              have hv : ss jj = accOf owner ss kk k := by
                rcases hj with ⟨h1, h2⟩ | ⟨h1, h2⟩
                · rw [accOf_lt (by omega), h2]
                · rw [accOf_gt h1 h2]
              have HJ : Hid _ := hj
              have HV : Hid _ := hv
              have e' : ((k : Int) == kk) = false := by rw [beq_eq_false_iff_ne]; omega
              have HE : Hid _ := e
              clear e hj hv hs3 hc
              go_wp2
              go_roundw
              case rel =>
                have hjn2 : (k + 1 ≤ kk ∧ jj + 1 = k + 1) ∨ (kk < k + 1 ∧ k + 1 = jj + 1 + 1) := by
                  have e := HE.out
                  rcases HJ.out with ⟨h1, h2⟩ | ⟨h1, h2⟩
                  · have h3 : k < kk := Nat.lt_of_le_of_ne h1 e
                    exact .inl ⟨h3, by rw [h2]⟩
                  · exact .inr ⟨by omega, by omega⟩
                exact ⟨k + 1, jj + 1, by omega, by go_num, by go_num, hjn2, ⟨_, hrow.set k _, row_next HF.out (by rw [HV.out])⟩, hb2.setCell (Nat.le_refl _) _, by simpa using hs2⟩
              case measure => simp [intOf]; omega
          · obtain ⟨w3, rfl⟩ : ∃ w3 : World, w3 = wr := ⟨_, rfl⟩
            have hge : ((n : Int) + 1) ≤ k := by omega
            have hacc : ∀ t, t < n + 1 → w3.cell? ⟨wc.heap.size, t, none⟩ = some (.string (accOf owner ss kk t)) := fun t ht => by rw [hrow.cell ht, HF.out t (by omega)]
            have HA : Hid _ := hacc
            have hBr : w3.heap[w.heap.size]? = some (.cells cs.toArray 22 (0, 0)) := (hb2.block _ hsz3).trans hB3
            have hbr : Below w.heap.size w w3 := hbel3.trans (hb2.mono (by omega))
            clear hlt hacc hrow HF hj hB3 hbel3 hb2
            by_cases p1 : (1 : Int) ≤ id.size
            rotate_left
            · have p1' : decide ((1 : Int) ≤ id.size) = false := by simpa using p1
              go_wp2_with (first
              | ((with_reducible refine wpList_load_row rfl 22 (.tmp 11) rfl w.heap.size ?_ 22 cs.toArray (0, 0) _ ?_ Try.underlying22 ?_ hi ?_); rfl; exact hBr; rfl))
              refine (orderHeld_acct id code kk (n + 1) 0 cs H.out wc.heap.size (accOf owner ss kk) (by omega) (by omega) _ hs2 HA.out).mono ?_
              rw [accOf_same]
              rintro e w9 ⟨rfl, hb9⟩
              go_wp2
              go_ret
              exact ⟨by simp, hbr.trans (hb9.mono (by omega))⟩
            by_cases p2 : (id.size : Int) + owner.size ≤ 29
            rotate_left
            · have p2' : decide ((id.size : Int) + owner.size ≤ 29) = false := by simpa using p2
              go_wp2_with (first
              | ((with_reducible refine wpList_load_row rfl 22 (.tmp 11) rfl w.heap.size ?_ 22 cs.toArray (0, 0) _ ?_ Try.underlying22 ?_ hi ?_); rfl; exact hBr; rfl))
              refine (orderHeld_acct id code kk (n + 1) 0 cs H.out wc.heap.size (accOf owner ss kk) (by omega) (by omega) _ hs2 HA.out).mono ?_
              rw [accOf_same]
              rintro e w9 ⟨rfl, hb9⟩
              go_wp2
              go_ret
              exact ⟨by simp, hbr.trans (hb9.mono (by omega))⟩
            have p2n : id.size + owner.size ≤ 29 := by omega
            have hcs := HCS.out
            go_wp2_with (first
              | ((with_reducible refine wpList_load_row rfl 22 (.tmp 11) rfl w.heap.size ?_ 22 cs.toArray (0, 0) _ ?_ Try.underlying22 ?_ hi ?_); rfl; exact hBr; rfl)
              | ((with_reducible refine wpList_store_row_abs rfl 22 (.tmp 22) (.tmp 128) rfl w3.heap.size cs.toArray ?_ ?_ 22 ?_ hi hcs ?_); rfl; rfl; exact ⟨_, heap_alloc_new _ _, by simp [H.out]⟩; intro w4 hC hb4 hs4))
            have hb4' : Below w3.heap.size w3 w4 := ((Below.refl _ _).alloc (Nat.le_refl _) _).trans hb4
            have hs4' : w3.heap.size < w4.heap.size := by rw [hs4]; simp
            clear hb4 hs4
            go_loopw [23] (fun i wy => ∃ k : Nat, k ≤ id.size ∧ i = .int .i64 k ∧ wy.heap[w3.heap.size]? = some (.cells (rowAt id cs k).toArray 22 (0, 0)) ∧ Below w3.heap.size w3 wy ∧ w3.heap.size < wy.heap.size) (fun i _ => id.size - (intOf i).toNat)
            case atStart => exact ⟨0, Nat.zero_le _, rfl, by rw [rowAt_zero]; exact hC, hb4', hs4'⟩
            case round =>
              clear hC hb4' hs4'
              obtain ⟨k, hk, rfl, hrow, hb4, hs4⟩ := hrel
              by_cases hlt : k < id.size
              · obtain ⟨v0, hc0⟩ := row_cell (i := k) hrow (by rw [rowAt_length H.out hk (by omega)]; omega)
                have hf0 := row_free (i := k) hrow
                have hlt' : (k : Int) < id.size := by omega
                have hk29 : (k : Int) < 29 := by omega
                go_wp2
                go_roundw
                case rel =>
                  refine ⟨k + 1, by omega, by go_num, ?_, hb4.setCell (Nat.le_refl _) _, by simpa using hs4⟩
                  rw [row_setCell _ hrow, rowAt_step H.out hlt (by omega)]
                case measure => simp [intOf]; omega
              · obtain rfl : k = id.size := by omega
                have hgel : (id.size : Int) ≤ id.size := by omega
                go_wp2
                go_loopw [24] (fun i wz => ∃ k : Nat, k ≤ owner.size ∧ i = .int .i64 k ∧ wz.heap[w3.heap.size]? = some (.cells (rowAt2 id owner cs k).toArray 22 (0, 0)) ∧ Below w3.heap.size w3 wz ∧ w3.heap.size < wz.heap.size) (fun i _ => owner.size - (intOf i).toNat)
                case atStart => exact ⟨0, Nat.zero_le _, rfl, by rw [rowAt2_zero]; exact hrow, hb4, hs4⟩
                case round =>
                  clear hrow hb4 hs4
                  obtain ⟨k, hk2, rfl, hrow, hb4, hs4⟩ := hrel
                  by_cases hlt2 : k < owner.size
                  · obtain ⟨v0, hc0⟩ := row_cell (i := id.size + k) hrow (by rw [rowAt2_length H.out hk2 p2n]; omega)
                    have hf0 := row_free (i := id.size + k) hrow
                    have hlt' : (k : Int) < owner.size := by omega
                    have hk29 : (id.size : Int) + k < 29 := by omega
                    go_wp2
                    go_roundw
                    case rel =>
                      refine ⟨k + 1, by omega, by go_num, ?_, hb4.setCell (Nat.le_refl _) _, by simpa using hs4⟩
                      rw [row_setCell _ hrow, rowAt2_step H.out hlt2 p2n]
                    case measure => simp [intOf]; omega
                  · obtain rfl : k = owner.size := by omega
                    have hi2 : (Try.prog.info? 22).map (·.size) = some (rowAt2 id owner cs owner.size).toArray.size := info22 (rowAt2_length H.out (Nat.le_refl _) p2n)
                    have HA4 : Hid (∀ t, t < n + 1 → wr.cell? ⟨wc.heap.size, t, none⟩ = some (.string (accOf owner ss kk t))) := fun t ht => (hb4.cell (p := ⟨wc.heap.size, t, none⟩) hs2).trans (HA.out t ht)
                    go_wp2_with (first
                      | ((with_reducible refine wpList_load_row rfl 22 (.tmp 22) rfl w3.heap.size ?_ 22 (rowAt2 id owner cs owner.size).toArray (0, 0) _ ?_ Try.underlying22 ?_ hi2 ?_); rfl; exact hrow; rfl))
                    refine (orderHeld_codes id owner code (-1) (n + 1) (rowAt2 id owner cs owner.size) (rowAt2_length H.out (Nat.le_refl _) p2n) (by omega) p2n (fun i hi' => rowAt2_get (Nat.le_refl _) hi') wc.heap.size (accOf owner ss kk) (by omega) _ (by omega) HA4.out).mono ?_
                    rintro e w7 ⟨rfl, hb7⟩
                    have hB7 : w7.heap[w.heap.size]? = some (.cells cs.toArray 22 (0, 0)) := (hb7.block _ (by omega)).trans ((hb4.block _ (by omega)).trans hBr)
                    have hbel7 : Below w.heap.size w w7 := hbr.trans ((hb4.mono (by omega)).trans (hb7.mono (by omega)))
                    have hs7 := hb7.size
                    have HA7 : Hid (∀ t, t < n + 1 → w7.cell? ⟨wc.heap.size, t, none⟩ = some (.string (accOf owner ss kk t))) := fun t ht => (hb7.cell (p := ⟨wc.heap.size, t, none⟩) (by show wc.heap.size < _; omega)).trans (HA4.out t ht)
                    clear hb7 hb4 hBr hbr hrow
                    go_wp2_with (first
                    | ((with_reducible refine wpList_load_row rfl 22 (.tmp 11) rfl w.heap.size ?_ 22 cs.toArray (0, 0) _ ?_ Try.underlying22 ?_ hi ?_); rfl; exact hB7; rfl))
                    refine (orderHeld_acct id code kk (n + 1) 0 cs H.out wc.heap.size (accOf owner ss kk) (by omega) (by omega) _ (by omega) HA7.out).mono ?_
                    rw [accOf_same]
                    rintro e w9 ⟨rfl, hb9⟩
                    go_wp2
                    go_ret
                    exact ⟨by simp, hbel7.trans (hb9.mono (by omega))⟩
end Go.Proofs.Qxb6600591a
