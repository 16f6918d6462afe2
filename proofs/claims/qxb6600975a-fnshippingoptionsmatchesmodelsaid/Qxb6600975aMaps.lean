import Derived.Test.Qxb6600975aKit
import Derived.Maps.OwnSet
namespace Go.Proofs.Qxb6600975a
open Go.RowKit Go.Maps

theorem law9 : Keyed Try.prog 9 := string_keyed Try.underlying9
theorem zero3 (w : World) : (zeroValue 3).run Try.prog w = .ok (.int .i64 0) w := by kernel_rfl

/-- Block B is a map from texts to places, of at most cnt entries: at a text it holds what M says. -/
def MapIs (W : World) (B cnt : Nat) (M : List UInt8 → Option Nat) : Prop :=
  ∃ D : DataW Unit, W.ownsMap Try.prog 9 (plainElem Try.prog 3) B cnt D ∧ ∀ s, Maps.has D (.string s) = (M s).isSome ∧ ∀ i, M s = some i → D.atKey (.string s) (.lit (.int .i64 0)) = .lit (.int .i64 (i : Int))
def upd (M : List UInt8 → Option Nat) (k : List UInt8) (i : Nat) : List UInt8 → Option Nat := fun s => if s = k then some i else M s
theorem upd_same (M : List UInt8 → Option Nat) (k : List UInt8) (i : Nat) : upd M k i k = some i := if_pos rfl
theorem upd_other {M : List UInt8 → Option Nat} {k s : List UInt8} {i : Nat} (h : s ≠ k) : upd M k i s = M s := if_neg h

theorem MapIs.lt {W : World} {B cnt : Nat} {M : List UInt8 → Option Nat} (h : MapIs W B cnt M) : B < W.heap.size := by
  obtain ⟨D, ho, _⟩ := h; exact ho.lt
theorem MapIs.kept {W W' : World} {B cnt : Nat} {M : List UInt8 → Option Nat} {row : Option Nat} (h : MapIs W B cnt M) (hg : W.grownBy W' row) (hne : some B ≠ row) : MapIs W' B cnt M := by
  obtain ⟨D, ho, hd⟩ := h; exact ⟨D, ho.kept hg hne, hd⟩
theorem MapIs.alloc {W : World} {B cnt : Nat} {M : List UInt8 → Option Nat} (h : MapIs W B cnt M) (o : Obj) : MapIs (W.alloc o) B cnt M := h.kept (World.grownBy_alloc W o none) (by simp)
theorem MapIs.mono {W : World} {B cnt cnt' : Nat} {M : List UInt8 → Option Nat} (h : MapIs W B cnt M) (hc : cnt ≤ cnt') : MapIs W B cnt' M := by
  obtain ⟨D, ho, hd⟩ := h; exact ⟨D, ho.mono hc, hd⟩
theorem mapIs_made (w : World) : MapIs (w.alloc (.map #[] 0)) w.heap.size 0 (fun _ => none) :=
  ⟨.map [], World.ownsMap_made w _ _ _, fun s => ⟨rfl, fun i h => by cases h⟩⟩

/-- 'v, ok := m[k]'. -/
theorem wpList_look {ops : Array Oper} {rest : List Oper} {o : Oper} {a : Act} {w : World} {Q : Exit → Act → World → Prop} (hg : o.guard = none) (m x : Operand) (hop : o.op = Op.lookup 50 m x true)
    (B cnt : Nat) (M : List UInt8 → Option Nat) (hm : a.eval m = .map (some B)) (hown : MapIs w B cnt M) (s : ByteArray) (hx : a.eval x = .string s) (hs : s.size ≤ maxLen)
    (hK : ∀ c : Int, (∀ i, M s.data.toList = some i → c = i) → wpList Try.prog ops Q rest (a.put o.dst (.tuple #[.int .i64 c, .bool (M s.data.toList).isSome])) w) :
    wpList Try.prog ops Q (o :: rest) a w := by
  obtain ⟨D, ho, hd⟩ := hown
  refine wpList_lookup_own_ok_int w hg m x 50 hop 9 3 .i64 law9 Try.underlying50 Try.underlying3 (zero3 _) B cnt D hm ho (.string s) (.string s.data.toList) hx (WideMaps.keyOf_string_mk Try.underlying9 hs) ?_
  intro c hat _
  obtain ⟨h1, h2⟩ := hd s.data.toList
  rw [h1]
  refine hK c fun i hi => ?_
  have := h2 i hi
  rw [hat] at this
  injection this with this
  injection this

/-- 'm[k] = v'. -/
theorem wpList_upd {ops : Array Oper} {rest : List Oper} {o : Oper} {a : Act} {w : World} {Q : Exit → Act → World → Prop} (hg : o.guard = none) (m x v : Operand) (hop : o.op = Op.mapUpdate 50 m x v)
    (B cnt : Nat) (M : List UInt8 → Option Nat) (hm : a.eval m = .map (some B)) (hown : MapIs w B cnt M) (hc : cnt < maxLen) (s : ByteArray) (hx : a.eval x = .string s) (hs : s.size ≤ maxLen)
    (i : Nat) (hv : a.eval v = .int .i64 (i : Int)) (hi : i < 1000000000)
    (hK : ∀ w', MapIs w' B (cnt + 1) (upd M s.data.toList i) → w.grownBy w' (some B) → wpList Try.prog ops Q rest (a.put o.dst undef) w') :
    wpList Try.prog ops Q (o :: rest) a w := by
  obtain ⟨D, ho, hd⟩ := hown
  have hkey : keyOf Try.prog 9 (.string s) = some (.string s.data.toList) := WideMaps.keyOf_string_mk Try.underlying9 hs
  refine wpList_mapUpdate_own w hg m x v 50 hop 9 3 law9 Try.underlying50 (plainElem Try.prog 3) B cnt D hm ho hc (.string s) (.int .i64 (i : Int)) (.string s.data.toList) hx hv hkey _ [] (plainElem_int Try.underlying3 (WalkArith.wf_i64 (by omega))) ?_
  intro w' ho' hgr
  refine hK w' ⟨_, ho', fun t => ?_⟩ hgr
  have hkl : WideAt.IsKeyLit (Lit.string s.data.toList) := trivial
  by_cases e : t = s.data.toList
  · subst e
    rw [upd_same]
    exact ⟨has_put_same ho.isMap hkl _, fun j hj => by cases hj; exact atKey_put_same ho.isMap hkl _ _⟩
  · have hne : Lit.string t ≠ Lit.string s.data.toList := fun h => e (by injection h)
    rw [upd_other e, has_put_other hne, atKey_put_other hne]
    exact hd t
end Go.Proofs.Qxb6600975a
