import Derived.Test.Qxb6604053aSmall
import Derived.ProofKit
import Derived.ShutString
import Derived.ChangeOld
import Derived.Deep.Slices
namespace Go.Proofs.Qxb6604053a
open Go.ChangeShapes Go.WideShapes Go.ChangeAt Go.RowKit

theorem cons_mk {H : Type} {enc : TypeId × Value → H} {P : Program} {w : World} {base : Nat} {sp : Nat → Bool} {held : Bool} {t : TypeId} {ts : List TypeId} {v : Value} {vs : List Value} {d : DataW H} {ds : List (DataW H)} {p p' : List MemPlace}
    (h : DataW.Trod enc P w base sp held t v d p) (k : DataW.TrodAll enc P w base sp held ts vs ds p') : DataW.TrodAll enc P w base sp held (t :: ts) (v :: vs) (d :: ds) (p ++ p') := ⟨p, p', h, k, rfl⟩
theorem own : ownKnob Try.prog.godebug = none := by kernel_rfl

/-- A struct of one-cell fields, field i at offset i. -/
def flatB (P : Program) (fs : Array Field) : Bool := (List.range fs.size).all fun i => match fs[i]? with | some f => f.offset == i && P.cellsOf f.type == 1 | none => false
theorem flat_of {P : Program} {fs : Array Field} (h : flatB P fs = true) {i : Nat} {f : Field} (hf : fs[i]? = some f) : f.offset = i ∧ P.cellsOf f.type = 1 := by
  have hi : i < fs.size := (Array.getElem?_eq_some_iff.1 hf).1
  have := List.all_eq_true.1 h i (List.mem_range.2 hi)
  rw [hf] at this
  simpa using this

/-- A slice of flat structs that came in: each field of each element lies in its cell, and reads as its type says. -/
theorem open_flat {H : Type} {enc : TypeId × Value → H} {P : Program} {W : World} {t e : TypeId} {fs : Array Field} {a : Option Addr} {n c : Nat} {d : DataW H} {p : List MemPlace}
    (ht : P.underlying t = some (.slice e)) (he : P.underlying e = some (.struct fs)) (hC : P.cellsOf e = fs.size) (hfl : flatB P fs = true)
    (h : DataW.Trod enc P W 0 (fun _ => true) true t (.slice a n c) d p) :
    (a = none → n = 0) ∧ (0 < n → 0 < fs.size → ∃ b off, a = some ⟨b, off, none⟩ ∧ b < W.heap.size ∧ ∀ i, i < n → ∀ (j : Nat) (f : Field), fs[j]? = some f → ∃ v m y, W.cell? ⟨b, off + (i * fs.size + j), none⟩ = some v ∧ DataW.trod enc P W 0 (fun _ => true) true m f.type [v] = some y) := by
  obtain ⟨fuel, hf⟩ := h
  rcases Deep.open_slice ht hf with ⟨hcs, _⟩ | ⟨x, len, cap, m, k, D, Pl, hcs, _, hl, _, hm, _, hx⟩
  · simp [Value.cells] at hcs
    obtain ⟨rfl, rfl, rfl⟩ := hcs
    exact ⟨fun _ => rfl, fun h => by omega⟩
  · simp [Value.cells] at hcs
    obtain ⟨rfl, rfl, rfl⟩ := hcs
    simp only [if_true] at hm
    refine ⟨fun h => (by cases h), fun hn hfs => ?_⟩
    have each : ∀ i, i < n → ∀ (j : Nat) (f : Field), fs[j]? = some f → ∃ v m y, W.cell? (x.add (i * fs.size + j)) = some v ∧ DataW.trod enc P W 0 (fun _ => true) true m f.type [v] = some y := by
      intro i hi j f hj
      obtain ⟨cs', h1, h2⟩ := hx i (by omega)
      rw [hC] at h1
      obtain ⟨_, hlen, hcell⟩ := World.cells?_some h1
      obtain ⟨xs, k', _, _, _, hxl, hff⟩ := DataW.trod_struct he h2
      have hjl : j < fs.size := (Array.getElem?_eq_some_iff.1 hj).1
      obtain ⟨ho, hc⟩ := flat_of hfl hj
      have g := hff j f hj
      have hjc : j < cs'.length := by omega
      have e1 : (cs'.drop f.offset).take (P.cellsOf f.type) = [cs'[j]] := by
        rw [ho, hc, List.drop_eq_getElem_cons hjc]; rfl
      rw [e1] at g
      have hjx : j < xs.length := by omega
      rw [List.getElem?_eq_getElem hjx] at g
      refine ⟨cs'[j], k', xs[j], ?_, g⟩
      have e2 := hcell j (by omega)
      rw [Deep.add_add] at e2
      rw [e2, List.getElem?_eq_getElem hjc]
    obtain ⟨b, off, spot⟩ := x
    have hf0 : fs[0]? = some fs[0] := Array.getElem?_eq_getElem hfs
    obtain ⟨v0, _, _, h0, _⟩ := each 0 hn 0 _ hf0
    have hspot : spot = none := by simpa [Addr.add] using World.cell?_spot h0
    subst hspot
    rw [add_plain] at h0
    exact ⟨b, off, rfl, cell_lt h0, fun i hi j f hj => by have := each i hi j f hj; rwa [add_plain] at this⟩

/-- What lies in a cell, as a text, as a number. -/
def strAt (W : World) (a : Addr) : ByteArray := match W.cell? a with | some (.string s) => s | _ => ByteArray.empty
def intAt (W : World) (a : Addr) : Int := match W.cell? a with | some (.int _ z) => z | _ => 0
theorem strAt_of {W : World} {a : Addr} {s : ByteArray} (h : W.cell? a = some (.string s)) : W.cell? a = some (.string (strAt W a)) := by
  have : strAt W a = s := by unfold strAt; rw [h]
  rw [this]; exact h
theorem intAt_of {W : World} {a : Addr} {k : IntKind} {z : Int} (h : W.cell? a = some (.int k z)) : W.cell? a = some (.int k (intAt W a)) := by
  have : intAt W a = z := by unfold intAt; rw [h]
  rw [this]; exact h
def boolAt (W : World) (a : Addr) : Bool := match W.cell? a with | some (.bool b) => b | _ => false
def fltAt (W : World) (a : Addr) : Nat := match W.cell? a with | some (.float _ z) => z | _ => 0
theorem boolAt_of {W : World} {a : Addr} {b : Bool} (h : W.cell? a = some (.bool b)) : W.cell? a = some (.bool (boolAt W a)) := by
  have : boolAt W a = b := by unfold boolAt; rw [h]
  rw [this]; exact h
theorem fltAt_of {W : World} {a : Addr} {k : FloatKind} {z : Nat} (h : W.cell? a = some (.float k z)) : W.cell? a = some (.float k (fltAt W a)) := by
  have : fltAt W a = z := by unfold fltAt; rw [h]
  rw [this]; exact h
theorem trod_flt {H : Type} {enc : TypeId × Value → H} {P : Program} {w : World} {base : Nat} {spare : Nat → Bool} {held : Bool} {fuel : Nat} {t : TypeId} {cs : List Value} {x : DataW H × List MemPlace} {k : FloatKind} (ht : P.underlying t = some (.float k))
    (h : DataW.trod enc P w base spare held fuel t cs = some x) : ∃ b, cs = [.float k b] ∧ (Lit.float k b).wf = true := by
  cases fuel with
  | zero => simp [DataW.trod] at h
  | succ n =>
    unfold DataW.trod at h
    rw [ht] at h
    split at h <;> simp_all
theorem intAt_eq {W : World} {a : Addr} {k : IntKind} {z : Int} (h : W.cell? a = some (.int k z)) : intAt W a = z := by unfold intAt; rw [h]
theorem strAt_eq {W : World} {a : Addr} {z : ByteArray} (h : W.cell? a = some (.string z)) : strAt W a = z := by unfold strAt; rw [h]
theorem fltAt_eq {W : World} {a : Addr} {k : FloatKind} {z : Nat} (h : W.cell? a = some (.float k z)) : fltAt W a = z := by unfold fltAt; rw [h]
/-- The record that lies at a place. -/
def recAt (W : World) (b off i : Nat) : Rc := ⟨intAt W ⟨b, off + i * 19 + 0, none⟩, strAt W ⟨b, off + i * 19 + 1, none⟩, strAt W ⟨b, off + i * 19 + 2, none⟩, intAt W ⟨b, off + i * 19 + 3, none⟩, intAt W ⟨b, off + i * 19 + 4, none⟩, intAt W ⟨b, off + i * 19 + 5, none⟩, intAt W ⟨b, off + i * 19 + 6, none⟩, intAt W ⟨b, off + i * 19 + 7, none⟩, intAt W ⟨b, off + i * 19 + 8, none⟩, boolAt W ⟨b, off + i * 19 + 9, none⟩, intAt W ⟨b, off + i * 19 + 10, none⟩, intAt W ⟨b, off + i * 19 + 11, none⟩, intAt W ⟨b, off + i * 19 + 12, none⟩, intAt W ⟨b, off + i * 19 + 13, none⟩, strAt W ⟨b, off + i * 19 + 14, none⟩, strAt W ⟨b, off + i * 19 + 15, none⟩, intAt W ⟨b, off + i * 19 + 16, none⟩, fltAt W ⟨b, off + i * 19 + 17, none⟩, intAt W ⟨b, off + i * 19 + 18, none⟩⟩
theorem open22 {H : Type} {enc : TypeId × Value → H} {W : World} {a : Option Addr} {n c : Nat} {d : DataW H} {p : List MemPlace} (h : DataW.Trod enc Try.prog W 0 (fun _ => true) true 22 (.slice a n c) d p) :
    ∃ R, In W a n R ∧ ∀ i, i < n → (R i).ok ∧ (Lit.float .f64 (R i).cpu).wf = true := by
  obtain ⟨_, ho⟩ := open_flat Try.underlying22 Try.underlying36 (by kernel_rfl) (by kernel_rfl) h
  by_cases hn : 0 < n
  · obtain ⟨b, off, rfl, hb, hc⟩ := ho hn (by decide)
    have key : ∀ i, i < n → RecAt W b (off + i * 19) (recAt W b off i) ∧ (recAt W b off i).ok ∧ (Lit.float .f64 (recAt W b off i).cpu).wf = true := by
      intro i hi
      obtain ⟨v0, m0, y0, c0, t0⟩ := hc i hi 0 _ rfl
      obtain ⟨v1, m1, y1, c1, t1⟩ := hc i hi 1 _ rfl
      obtain ⟨v2, m2, y2, c2, t2⟩ := hc i hi 2 _ rfl
      obtain ⟨v3, m3, y3, c3, t3⟩ := hc i hi 3 _ rfl
      obtain ⟨v4, m4, y4, c4, t4⟩ := hc i hi 4 _ rfl
      obtain ⟨v5, m5, y5, c5, t5⟩ := hc i hi 5 _ rfl
      obtain ⟨v6, m6, y6, c6, t6⟩ := hc i hi 6 _ rfl
      obtain ⟨v7, m7, y7, c7, t7⟩ := hc i hi 7 _ rfl
      obtain ⟨v8, m8, y8, c8, t8⟩ := hc i hi 8 _ rfl
      obtain ⟨v9, m9, y9, c9, t9⟩ := hc i hi 9 _ rfl
      obtain ⟨v10, m10, y10, c10, t10⟩ := hc i hi 10 _ rfl
      obtain ⟨v11, m11, y11, c11, t11⟩ := hc i hi 11 _ rfl
      obtain ⟨v12, m12, y12, c12, t12⟩ := hc i hi 12 _ rfl
      obtain ⟨v13, m13, y13, c13, t13⟩ := hc i hi 13 _ rfl
      obtain ⟨v14, m14, y14, c14, t14⟩ := hc i hi 14 _ rfl
      obtain ⟨v15, m15, y15, c15, t15⟩ := hc i hi 15 _ rfl
      obtain ⟨v16, m16, y16, c16, t16⟩ := hc i hi 16 _ rfl
      obtain ⟨v17, m17, y17, c17, t17⟩ := hc i hi 17 _ rfl
      obtain ⟨v18, m18, y18, c18, t18⟩ := hc i hi 18 _ rfl
      rw [← Nat.add_assoc] at c0
      obtain ⟨s0, e0, _, z0⟩ := DataW.trod_int (t := 3) Try.underlying3 t0
      obtain rfl : v0 = .int .i64 s0 := by simpa using e0
      rw [← Nat.add_assoc] at c1
      obtain ⟨s1, e1, _, z1⟩ := DataW.trod_string (t := 9) Try.underlying9 t1
      obtain rfl : v1 = .string s1 := by simpa using e1
      rw [← Nat.add_assoc] at c2
      obtain ⟨s2, e2, _, z2⟩ := DataW.trod_string (t := 9) Try.underlying9 t2
      obtain rfl : v2 = .string s2 := by simpa using e2
      rw [← Nat.add_assoc] at c3
      obtain ⟨s3, e3, _, z3⟩ := DataW.trod_int (t := 3) Try.underlying3 t3
      obtain rfl : v3 = .int .i64 s3 := by simpa using e3
      rw [← Nat.add_assoc] at c4
      obtain ⟨s4, e4, _, z4⟩ := DataW.trod_int (t := 3) Try.underlying3 t4
      obtain rfl : v4 = .int .i64 s4 := by simpa using e4
      rw [← Nat.add_assoc] at c5
      obtain ⟨s5, e5, _, z5⟩ := DataW.trod_int (t := 29) Try.underlying29 t5
      obtain rfl : v5 = .int .u64 s5 := by simpa using e5
      rw [← Nat.add_assoc] at c6
      obtain ⟨s6, e6, _, z6⟩ := DataW.trod_int (t := 29) Try.underlying29 t6
      obtain rfl : v6 = .int .u64 s6 := by simpa using e6
      rw [← Nat.add_assoc] at c7
      obtain ⟨s7, e7, _, z7⟩ := DataW.trod_int (t := 29) Try.underlying29 t7
      obtain rfl : v7 = .int .u64 s7 := by simpa using e7
      rw [← Nat.add_assoc] at c8
      obtain ⟨s8, e8, _, z8⟩ := DataW.trod_int (t := 29) Try.underlying29 t8
      obtain rfl : v8 = .int .u64 s8 := by simpa using e8
      rw [← Nat.add_assoc] at c9
      obtain ⟨s9, e9, _⟩ := DataW.trod_bool (t := 4) Try.underlying4 t9
      obtain rfl : v9 = .bool s9 := by simpa using e9
      rw [← Nat.add_assoc] at c10
      obtain ⟨s10, e10, _, z10⟩ := DataW.trod_int (t := 29) Try.underlying29 t10
      obtain rfl : v10 = .int .u64 s10 := by simpa using e10
      rw [← Nat.add_assoc] at c11
      obtain ⟨s11, e11, _, z11⟩ := DataW.trod_int (t := 29) Try.underlying29 t11
      obtain rfl : v11 = .int .u64 s11 := by simpa using e11
      rw [← Nat.add_assoc] at c12
      obtain ⟨s12, e12, _, z12⟩ := DataW.trod_int (t := 29) Try.underlying29 t12
      obtain rfl : v12 = .int .u64 s12 := by simpa using e12
      rw [← Nat.add_assoc] at c13
      obtain ⟨s13, e13, _, z13⟩ := DataW.trod_int (t := 29) Try.underlying29 t13
      obtain rfl : v13 = .int .u64 s13 := by simpa using e13
      rw [← Nat.add_assoc] at c14
      obtain ⟨s14, e14, _, z14⟩ := DataW.trod_string (t := 9) Try.underlying9 t14
      obtain rfl : v14 = .string s14 := by simpa using e14
      rw [← Nat.add_assoc] at c15
      obtain ⟨s15, e15, _, z15⟩ := DataW.trod_string (t := 9) Try.underlying9 t15
      obtain rfl : v15 = .string s15 := by simpa using e15
      rw [← Nat.add_assoc] at c16
      obtain ⟨s16, e16, _, z16⟩ := DataW.trod_int (t := 29) Try.underlying29 t16
      obtain rfl : v16 = .int .u64 s16 := by simpa using e16
      rw [← Nat.add_assoc] at c17
      obtain ⟨s17, e17, z17⟩ := trod_flt (t := 32) Try.underlying32 t17
      obtain rfl : v17 = .float .f64 s17 := by simpa using e17
      rw [← Nat.add_assoc] at c18
      obtain ⟨s18, e18, _, z18⟩ := DataW.trod_int (t := 3) Try.underlying3 t18
      obtain rfl : v18 = .int .i64 s18 := by simpa using e18
      refine ⟨lt19 (intAt_of c0) (strAt_of c1) (strAt_of c2) (intAt_of c3) (intAt_of c4) (intAt_of c5) (intAt_of c6) (intAt_of c7) (intAt_of c8) (boolAt_of c9) (intAt_of c10) (intAt_of c11) (intAt_of c12) (intAt_of c13) (strAt_of c14) (strAt_of c15) (intAt_of c16) (fltAt_of c17) (intAt_of c18), ⟨?_, ?_⟩, ?_⟩
      · have e : (recAt W b off i).job = s16 := intAt_eq c16
        rw [e]
        simp [Lit.wf, IntKind.min, IntKind.max, IntKind.signed, IntKind.bits] at z16
        omega
      · have e : (recAt W b off i).comm = s1 := strAt_eq c1
        rw [e]; exact z1
      · have e : (recAt W b off i).cpu = s17 := fltAt_eq c17
        rw [e]; exact z17
    exact ⟨recAt W b off, fun _ => ⟨b, off, rfl, hb, fun i hi => (key i hi).1⟩, fun i hi => (key i hi).2⟩
  · exact ⟨fun _ => z0, fun h => absurd h hn, fun i hi => absurd hi (by omega)⟩
end Go.Proofs.Qxb6604053a
