import Derived.Test.Qxb6600975aShipWalk
import Derived.Test.Qxb6600975aOpen
namespace Go.Proofs.Qxb6600975a
open Go.ChangeShapes Go.WideShapes Go.ChangeAt Go.RowKit

theorem open22 {H : Type} {enc : TypeId × Value → H} {W : World} {a : Option Addr} {n c : Nat} {d : DataW H} {p : List MemPlace} (h : DataW.Trod enc Try.prog W 0 (fun _ => true) true 22 (.slice a n c) d p) :
    ∃ R : Ship, ShipRows W a n R ∧ ∀ i, i < n → (R.lv i).size ≤ maxLen := by
  obtain ⟨_, ho⟩ := open_flat Try.underlying22 Try.underlying35 (by kernel_rfl) (by kernel_rfl) h
  by_cases hn : 0 < n
  · obtain ⟨b, off, rfl, hb, hc⟩ := ho hn (by decide)
    have each : ∀ i, i < n → (W.cell? ⟨b, off + i * 5, none⟩ = some (.string (strAt W ⟨b, off + i * 5, none⟩)) ∧ W.cell? ⟨b, off + i * 5 + 1, none⟩ = some (.string (strAt W ⟨b, off + i * 5 + 1, none⟩)) ∧
        W.cell? ⟨b, off + i * 5 + 2, none⟩ = some (.string (strAt W ⟨b, off + i * 5 + 2, none⟩)) ∧ W.cell? ⟨b, off + i * 5 + 3, none⟩ = some (.int .i64 (intAt W ⟨b, off + i * 5 + 3, none⟩)) ∧
        W.cell? ⟨b, off + i * 5 + 4, none⟩ = some (.string (strAt W ⟨b, off + i * 5 + 4, none⟩))) ∧ (strAt W ⟨b, off + i * 5 + 2, none⟩).size ≤ maxLen := by
      intro i hi
      obtain ⟨v0, m0, y0, c0, t0⟩ := hc i hi 0 _ rfl
      obtain ⟨v1, m1, y1, c1, t1⟩ := hc i hi 1 _ rfl
      obtain ⟨v2, m2, y2, c2, t2⟩ := hc i hi 2 _ rfl
      obtain ⟨v3, m3, y3, c3, t3⟩ := hc i hi 3 _ rfl
      obtain ⟨v4, m4, y4, c4, t4⟩ := hc i hi 4 _ rfl
      obtain ⟨s0, e0, _⟩ := DataW.trod_string (t := 9) Try.underlying9 t0
      obtain ⟨s1, e1, _⟩ := DataW.trod_string (t := 9) Try.underlying9 t1
      obtain ⟨s2, e2, _, hl2⟩ := DataW.trod_string (t := 9) Try.underlying9 t2
      obtain ⟨z3, e3, _⟩ := DataW.trod_int (t := 2) Try.underlying2 t3
      obtain ⟨s4, e4, _⟩ := DataW.trod_string (t := 9) Try.underlying9 t4
      obtain rfl : v0 = .string s0 := by simpa using e0
      obtain rfl : v1 = .string s1 := by simpa using e1
      obtain rfl : v2 = .string s2 := by simpa using e2
      obtain rfl : v3 = .int .i64 z3 := by simpa using e3
      obtain rfl : v4 = .string s4 := by simpa using e4
      have c2' : W.cell? ⟨b, off + i * 5 + 2, none⟩ = some (.string s2) := by rw [Nat.add_assoc]; exact c2
      refine ⟨⟨strAt_of c0, strAt_of (by rw [Nat.add_assoc]; exact c1), strAt_of c2', intAt_of (by rw [Nat.add_assoc]; exact c3), strAt_of (by rw [Nat.add_assoc]; exact c4)⟩, ?_⟩
      have : strAt W ⟨b, off + i * 5 + 2, none⟩ = s2 := by unfold strAt; rw [c2']
      rw [this]; exact hl2
    exact ⟨⟨fun i => strAt W ⟨b, off + i * 5, none⟩, fun i => strAt W ⟨b, off + i * 5 + 1, none⟩, fun i => strAt W ⟨b, off + i * 5 + 2, none⟩, fun i => intAt W ⟨b, off + i * 5 + 3, none⟩, fun i => strAt W ⟨b, off + i * 5 + 4, none⟩⟩,
      fun _ => ⟨b, off, rfl, hb, fun i hi => (each i hi).1⟩, fun i hi => (each i hi).2⟩
  · exact ⟨⟨fun _ => ByteArray.empty, fun _ => ByteArray.empty, fun _ => ByteArray.empty, fun _ => 0, fun _ => ByteArray.empty⟩, fun h => absurd h hn, fun i hi => by omega⟩

set_option maxRecDepth 100000 in
theorem fnShip_lifted (os : Os) (started : os.Started) (H : Type) (enc : TypeId × Value → H) :
    ReturnsInHanded {} Try.checked os 3 .any (Rows.fnShippingOptionsMatchesModelSpec.pre6 enc Try.prog Try.f3 Rows.fnShippingOptionsMatchesModelRow.domain false) (Rows.fnShippingOptionsMatchesModelSpec.post enc Try.prog Try.f3 false true false false) := by
  refine returnsInHanded_of_change (C := Try.checked) own started (by kernel_rfl) Try.func3
    (ChangeSpec.witness6 (enc := enc) (C := Try.checked) false ⟨#[], #[.slice none 0 0, .string ⟨#[]⟩], []⟩ 8 (by kernel_rfl) (by kernel_rfl) (by kernel_rfl) (by kernel_rfl)) ?_
  intro W base args ds gs before hval0 hW hcnd _
  have hval : ∀ (j : Nat) t v, Try.f3.params[j]? = some t → args[j]? = some v → Value.okWide Try.prog W .any base t v := hval0
  have hW' := hW
  obtain ⟨p, q, hA0, hV, rfl, hfz, hnd⟩ := hW
  have hA : DataW.TrodAll enc Try.prog W 0 (fun _ => true) true Try.f3.params.toList args.toList ds p := hA0
  rw [Try.params3] at hA hval
  obtain ⟨v0, vs0, d0, ds0, p0, q0, hargs, rfl, rfl, h0, r0⟩ := trodAll_cons hA
  obtain ⟨v1, vs1, d1, ds1, p1, q1, rfl, rfl, rfl, h1, r1⟩ := trodAll_cons r0
  obtain ⟨rfl, rfl, rfl⟩ := trodAll_nil r1
  obtain rfl : args = #[v0, v1] := by cases args; simp_all
  obtain ⟨rfl, rfl⟩ := trodVars_none hV
  have lt0 : ∀ x ∈ p0, x.block < W.heap.size := by obtain ⟨m, hm⟩ := h0; exact DataW.trod_lt m _ _ _ hm
  have lt1 : ∀ x ∈ p1, x.block < W.heap.size := by obtain ⟨m, hm⟩ := h1; exact DataW.trod_lt m _ _ _ hm
  obtain ⟨a0, n0, c0, rfl⟩ := okWide_slice Try.underlying22 (hval 0 22 v0 rfl rfl)
  obtain ⟨R, hrows, hlv⟩ := open22 h0
  obtain ⟨s1, rfl⟩ := okWide_string Try.underlying9 (hval 1 9 v1 rfl rfl)
  clear hA0 hval0
  refine (walkShip a0 n0 c0 s1 R W hrows hlv).mono fun e W' ⟨he, bel⟩ => ?_
  subst he
  exact ⟨_, rfl, _, _, _, [], _, [], hW', trodAll_mk1 (shut_bool Try.underlying4 _),
    (cons_mk (Below.trod laidOut (by kernel_rfl) (of_decide_eq_true (by kernel_rfl)) h0 bel lt0)
      (cons_mk (Below.trod laidOut (by kernel_rfl) (of_decide_eq_true (by kernel_rfl)) h1 bel lt1) trodAll_mk0)), rfl, bel.frame _, fun h => by cases h⟩

theorem fnShip_holds : Rows.FnShippingOptionsMatchesModelSaid :=
  OpenClaim.holds_of_wide 3 Try.f3 rfl rfl rfl rfl rfl rfl rfl ⟨rfl, rfl, rfl, rfl, rfl⟩ rfl rfl rfl rfl rfl (by kernel_rfl) Try.func3 (by kernel_rfl)
    (of_decide_eq_true (by kernel_rfl)) (by unfold Func.isWrapper; first | (rw [if_pos (by decide +kernel)]; kernel_rfl) | (rw [if_neg (by decide +kernel)]; exact ⟨rfl, rfl⟩))
    (fun os started H enc _ => fnShip_lifted os started H enc)
end Go.Proofs.Qxb6600975a
