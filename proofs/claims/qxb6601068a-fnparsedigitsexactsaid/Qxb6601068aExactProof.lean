import Derived.Test.Qxb6601068aExactWalk
import Derived.ProofKit
import Derived.ShutString
import Derived.ChangeOld
namespace Go.Proofs.Qxb6601068a.Exact
open Go.ChangeShapes Go.WideShapes Go.ChangeAt Go.RowKit

theorem cons_mk {H : Type} {enc : TypeId × Value → H} {P : Program} {w : World} {base : Nat} {sp : Nat → Bool} {held : Bool} {t : TypeId} {ts : List TypeId} {v : Value} {vs : List Value} {d : DataW H} {ds : List (DataW H)} {p p' : List MemPlace}
    (h : DataW.Trod enc P w base sp held t v d p) (k : DataW.TrodAll enc P w base sp held ts vs ds p') : DataW.TrodAll enc P w base sp held (t :: ts) (v :: vs) (d :: ds) (p ++ p') := ⟨p, p', h, k, rfl⟩
theorem own : ownKnob Try.prog.godebug = none := by kernel_rfl
theorem laidOut : laidOutB Try.prog = true := by kernel_rfl
theorem cells5 : Try.prog.cellsOf 5 = 1 := by kernel_rfl
theorem open24 {H : Type} {enc : TypeId × Value → H} {W : World} {a : Option Addr} {n c : Nat} {d : DataW H} {p : List MemPlace} (h : DataW.Trod enc Try.prog W 0 (fun _ => true) true 24 (.slice a n c) d p) :
    ∃ x : Nat → Int, Bytes W a n x ∧ (a = none → n = 0) ∧ ∀ i, i < n → 0 ≤ x i ∧ x i ≤ 255 := by
  obtain ⟨fuel, hf⟩ := h
  rcases open_ints Try.underlying24 Try.underlying5 cells5 hf with ⟨hcs, _⟩ | ⟨x, l, c', zs, hcs, _, hl, hm, hz, _, hcell, hwz⟩
  · simp [Value.cells] at hcs
    obtain ⟨rfl, rfl, rfl⟩ := hcs
    exact ⟨fun _ => 0, fun h => by omega, fun _ => rfl, fun i hi => by omega⟩
  · simp [Value.cells] at hcs
    obtain ⟨rfl, rfl, rfl⟩ := hcs
    simp only [if_true] at hz
    refine ⟨fun i => zs.getD i 0, fun hn => ?_, fun h => (by cases h), fun i hi => ?_⟩
    · obtain ⟨b, off, spot⟩ := x
      have h0 := hcell 0 (by omega)
      have hspot : spot = none := by simpa [Addr.add] using World.cell?_spot h0
      subst hspot
      rw [add_plain] at h0
      exact ⟨b, off, rfl, cell_lt h0, fun i hi => by have := hcell i (by omega); rwa [add_plain] at this⟩
    · have hi' : i < zs.length := by omega
      have := hwz zs[i] (List.getElem_mem hi')
      have e : zs.getD i 0 = zs[i] := by rw [List.getD, List.getElem?_eq_getElem hi']; rfl
      simp [Lit.wf, IntKind.min, IntKind.max, IntKind.signed, IntKind.bits] at this
      show 0 ≤ zs.getD i 0 ∧ zs.getD i 0 ≤ 255
      rw [e]; omega

set_option maxRecDepth 100000 in
theorem fnExact_lifted (os : Os) (started : os.Started) (H : Type) (enc : TypeId × Value → H) :
    ReturnsInHanded {} Try.checked os 4 .any (Rows.fnParseDigitsExactSpec.pre6 enc Try.prog Try.f4 Rows.fnParseDigitsExactRow.domain false) (Rows.fnParseDigitsExactSpec.post enc Try.prog Try.f4 false true false false) := by
  refine returnsInHanded_of_change (C := Try.checked) own started (by kernel_rfl) Try.func4
    (ChangeSpec.witness6 (enc := enc) (C := Try.checked) false ⟨#[], #[.slice none 0 0], []⟩ 8 (by kernel_rfl) (by kernel_rfl) (by kernel_rfl) (by kernel_rfl)) ?_
  intro W base args ds gs before hval0 hW hcnd _
  have hval : ∀ (j : Nat) t v, Try.f4.params[j]? = some t → args[j]? = some v → Value.okWide Try.prog W .any base t v := hval0
  have hW' := hW
  obtain ⟨p, q, hA0, hV, rfl, hfz, hnd⟩ := hW
  have hA : DataW.TrodAll enc Try.prog W 0 (fun _ => true) true Try.f4.params.toList args.toList ds p := hA0
  rw [Try.params4] at hA hval
  obtain ⟨v0, vs0, d0, ds0, p0, q0, hargs, rfl, rfl, h0, r0⟩ := trodAll_cons hA
  obtain ⟨rfl, rfl, rfl⟩ := trodAll_nil r0
  obtain rfl : args = #[v0] := by cases args; simp_all
  obtain ⟨rfl, rfl⟩ := trodVars_none hV
  have lt0 : ∀ x ∈ p0, x.block < W.heap.size := by obtain ⟨m, hm⟩ := h0; exact DataW.trod_lt m _ _ _ hm
  obtain ⟨a0, n0, c0, rfl⟩ := okWide_slice Try.underlying24 (hval 0 24 v0 rfl rfl)
  obtain ⟨x, hx, hnil, hbd⟩ := open24 h0
  clear hA0 hval0
  refine (walkExact a0 n0 c0 x W hx hnil hbd).mono fun e W' ⟨he, bel⟩ => ?_
  subst he
  exact ⟨_, rfl, _, _, _, [], _, [], hW', trodAll_mk1 (shut_bool Try.underlying4 _),
    (cons_mk (Below.trod laidOut (by kernel_rfl) (of_decide_eq_true (by kernel_rfl)) h0 bel lt0) trodAll_mk0), rfl, bel.frame _, fun h => by cases h⟩
end Go.Proofs.Qxb6601068a.Exact
namespace Go.Proofs.Qxb6601068a
theorem fnExact_holds : Rows.FnParseDigitsExactSaid :=
  OpenClaim.holds_of_wide 4 Try.f4 rfl rfl rfl rfl rfl rfl rfl ⟨rfl, rfl, rfl, rfl, rfl⟩ rfl rfl rfl rfl rfl (by kernel_rfl) Try.func4 (by kernel_rfl)
    (of_decide_eq_true (by kernel_rfl)) (by unfold Func.isWrapper; first | (rw [if_pos (by decide +kernel)]; kernel_rfl) | (rw [if_neg (by decide +kernel)]; exact ⟨rfl, rfl⟩))
    (fun os started H enc _ => Exact.fnExact_lifted os started H enc)
end Go.Proofs.Qxb6601068a
