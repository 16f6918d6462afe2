import Derived.Test.Qxb6600975aKit
import Derived.ProofKit
import Derived.ShutString
import Derived.ChangeOld
import Derived.Deep.Slices
namespace Go.Proofs.Qxb6600975a
open Go.ChangeShapes Go.WideShapes Go.ChangeAt Go.RowKit

theorem cons_mk {H : Type} {enc : TypeId × Value → H} {P : Program} {w : World} {base : Nat} {sp : Nat → Bool} {held : Bool} {t : TypeId} {ts : List TypeId} {v : Value} {vs : List Value} {d : DataW H} {ds : List (DataW H)} {p p' : List MemPlace}
    (h : DataW.Trod enc P w base sp held t v d p) (k : DataW.TrodAll enc P w base sp held ts vs ds p') : DataW.TrodAll enc P w base sp held (t :: ts) (v :: vs) (d :: ds) (p ++ p') := ⟨p, p', h, k, rfl⟩
theorem own : ownKnob Try.prog.godebug = none := by kernel_rfl
theorem laidOut : laidOutB Try.prog = true := by kernel_rfl

/-- A struct of one-cell fields, field i at offset i. -/
def flatB (P : Program) (fs : Array Field) : Bool := (List.range fs.size).all fun i => match fs[i]? with | some f => f.offset == i && P.cellsOf f.type == 1 | none => false
theorem flat_of {P : Program} {fs : Array Field} (h : flatB P fs = true) {i : Nat} {f : Field} (hf : fs[i]? = some f) : f.offset = i ∧ P.cellsOf f.type = 1 := by
  have hi : i < fs.size := (Array.getElem?_eq_some_iff.1 hf).1
  have := List.all_eq_true.1 h i (List.mem_range.2 hi)
  rw [hf] at this
  simpa using this

/-- A slice of flat structs that came in: each field of each element lies in its cell, and reads as its type says. -/
theorem open_flat {H : Type} {enc : TypeId × Value → H} {P : Program} {W : World} {t e : TypeId} {fs : Array Field} {a : Option Addr} {n c : Nat} {d : DataW H} {p : List MemPlace}
    (ht : P.underlying t = some (.slice e)) (he : P.underlying e = some (.struct fs)) (hC : P.cellsOf e = fs.size) (hfl : flatB P fs = true)
    (h : DataW.Trod enc P W 0 (fun _ => true) true t (.slice a n c) d p) :
    (a = none → n = 0) ∧ (0 < n → 0 < fs.size → ∃ b off, a = some ⟨b, off, none⟩ ∧ b < W.heap.size ∧ ∀ i, i < n → ∀ (j : Nat) (f : Field), fs[j]? = some f → ∃ v m y, W.cell? ⟨b, off + (i * fs.size + j), none⟩ = some v ∧ DataW.trod enc P W 0 (fun _ => true) true m f.type [v] = some y) := by
  obtain ⟨fuel, hf⟩ := h
  rcases Deep.open_slice ht hf with ⟨hcs, _⟩ | ⟨x, len, cap, m, k, D, Pl, hcs, _, hl, _, hm, _, hx⟩
  · simp [Value.cells] at hcs
    obtain ⟨rfl, rfl, rfl⟩ := hcs
    exact ⟨fun _ => rfl, fun h => by omega⟩
  · simp [Value.cells] at hcs
    obtain ⟨rfl, rfl, rfl⟩ := hcs
    simp only [if_true] at hm
    refine ⟨fun h => (by cases h), fun hn hfs => ?_⟩
    have each : ∀ i, i < n → ∀ (j : Nat) (f : Field), fs[j]? = some f → ∃ v m y, W.cell? (x.add (i * fs.size + j)) = some v ∧ DataW.trod enc P W 0 (fun _ => true) true m f.type [v] = some y := by
      intro i hi j f hj
      obtain ⟨cs', h1, h2⟩ := hx i (by omega)
      rw [hC] at h1
      obtain ⟨_, hlen, hcell⟩ := World.cells?_some h1
      obtain ⟨xs, k', _, _, _, hxl, hff⟩ := DataW.trod_struct he h2
      have hjl : j < fs.size := (Array.getElem?_eq_some_iff.1 hj).1
      obtain ⟨ho, hc⟩ := flat_of hfl hj
      have g := hff j f hj
      have hjc : j < cs'.length := by omega
      have e1 : (cs'.drop f.offset).take (P.cellsOf f.type) = [cs'[j]] := by
        rw [ho, hc, List.drop_eq_getElem_cons hjc]; rfl
      rw [e1] at g
      have hjx : j < xs.length := by omega
      rw [List.getElem?_eq_getElem hjx] at g
      refine ⟨cs'[j], k', xs[j], ?_, g⟩
      have e2 := hcell j (by omega)
      rw [Deep.add_add] at e2
      rw [e2, List.getElem?_eq_getElem hjc]
    obtain ⟨b, off, spot⟩ := x
    have hf0 : fs[0]? = some fs[0] := Array.getElem?_eq_getElem hfs
    obtain ⟨v0, _, _, h0, _⟩ := each 0 hn 0 _ hf0
    have hspot : spot = none := by simpa [Addr.add] using World.cell?_spot h0
    subst hspot
    rw [add_plain] at h0
    exact ⟨b, off, rfl, cell_lt h0, fun i hi j f hj => by have := each i hi j f hj; rwa [add_plain] at this⟩

/-- What lies in a cell, as a text, as a number. -/
def strAt (W : World) (a : Addr) : ByteArray := match W.cell? a with | some (.string s) => s | _ => ByteArray.empty
def intAt (W : World) (a : Addr) : Int := match W.cell? a with | some (.int _ z) => z | _ => 0
theorem strAt_of {W : World} {a : Addr} {s : ByteArray} (h : W.cell? a = some (.string s)) : W.cell? a = some (.string (strAt W a)) := by
  have : strAt W a = s := by unfold strAt; rw [h]
  rw [this]; exact h
theorem intAt_of {W : World} {a : Addr} {k : IntKind} {z : Int} (h : W.cell? a = some (.int k z)) : W.cell? a = some (.int k (intAt W a)) := by
  have : intAt W a = z := by unfold intAt; rw [h]
  rw [this]; exact h
end Go.Proofs.Qxb6600975a
