/-
  A map[int][]string by what it holds at each key: the elements are slice values, taken as they lie.
-/
import Derived.Test.Qxb6628937aFmtRows
import Derived.WalkKit
import Derived.WalkSpells
import Derived.WalkLawsBesides
import Derived.Maps.OwnSet
import Derived.Deep.OwnRows
namespace Go.Proofs.Qxb6628937aFmt
open Go.RowKit Go.Maps

/-- The nil slice. -/
abbrev nilS : Value := .slice none 0 0
/-- An element is kept as it lies. -/
def keepV (v : Value) : Option (DataW Value × List MemPlace) := some (.held v, [])

theorem Tryf.law3 : Keyed Tryf.prog 3 := int_keyed Tryf.underlying3
theorem Tryf.zero22 (w : World) : (zeroValue 22).run Tryf.prog w = .ok nilS w := by kernel_rfl

/-- Block b is a map that holds at the key i just f i. -/
def MapAt (w : World) (b n : Nat) (f : Int → Option Value) : Prop :=
  ∃ D : DataW Value, w.ownsMap Tryf.prog 3 keepV b n D ∧ ∀ i : Int, D.atKey (.int .i64 i) (.held nilS) = .held ((f i).getD nilS) ∧ Maps.has D (.int .i64 i) = (f i).isSome

theorem MapAt.lt {w : World} {b n : Nat} {f : Int → Option Value} (h : MapAt w b n f) : b < w.heap.size := by
  obtain ⟨D, h, _⟩ := h
  exact h.lt

theorem MapAt.kept {w w' : World} {b n : Nat} {f : Int → Option Value} {row : Option Nat} (h : MapAt w b n f) (hg : w.grownBy w' row) (hne : some b ≠ row) : MapAt w' b n f := by
  obtain ⟨D, h, hf⟩ := h
  exact ⟨D, h.kept hg hne, hf⟩

theorem MapAt.mono {w : World} {b n n' : Nat} {f : Int → Option Value} (h : MapAt w b n f) (hn : n ≤ n') : MapAt w b n' f := by
  obtain ⟨D, h, hf⟩ := h
  exact ⟨D, h.mono hn, hf⟩

theorem MapAt.made (w : World) : MapAt (w.alloc (.map #[] 0)) w.heap.size 0 (fun _ => none) :=
  ⟨_, World.ownsMap_made w _ _ _, fun _ => ⟨rfl, rfl⟩⟩

theorem MapAt.isRow {w : World} {b n : Nat} {f : Int → Option Value} (h : MapAt w b n f) {g : Nat} {t : TypeId} {m : Nat} {c : Nat → Value} (hr : w.rowIs g t m c) : g ≠ b := by
  rintro rfl
  obtain ⟨D, ⟨es, clock, hb, _⟩, _⟩ := h
  obtain ⟨cs, hc, _⟩ := hr
  rw [hb] at hc
  cases hc

theorem key_wf {i : Int} (h0 : 0 ≤ i) (h1 : i ≤ 4611686018427387904) : keyOf Tryf.prog 3 (.int .i64 i) = some (.int .i64 i) := keyOf_int_mk Tryf.underlying3 (WalkArith.wf_i64 (by omega))

/-- 'm[i]'. -/
theorem MapAt.look {w : World} {b n : Nat} {f : Int → Option Value} (h : MapAt w b n f) {i : Int} (h0 : 0 ≤ i) (h1 : i ≤ 4611686018427387904) :
    (Instr.lookup 24 (.map (some b)) (.int .i64 i) false).run Tryf.prog w = .ok ((f i).getD nilS) w := by
  obtain ⟨D, h, hf⟩ := h
  obtain ⟨v, ps, hrun, hv⟩ := h.lookup Tryf.law3 Tryf.underlying24 (Tryf.zero22 w) (zd := .held nilS) (zp := []) rfl (key_wf h0 h1)
  rw [(hf i).1] at hv
  simp only [keepV, Option.some.injEq, Prod.mk.injEq, DataW.held.injEq] at hv
  rw [hrun, hv.1]

/-- 'v, ok := m[i]'. -/
theorem MapAt.look_ok {w : World} {b n : Nat} {f : Int → Option Value} (h : MapAt w b n f) {i : Int} (h0 : 0 ≤ i) (h1 : i ≤ 4611686018427387904) :
    (Instr.lookup 24 (.map (some b)) (.int .i64 i) true).run Tryf.prog w = .ok (.tuple #[(f i).getD nilS, .bool (f i).isSome]) w := by
  obtain ⟨D, h, hf⟩ := h
  obtain ⟨v, ps, hrun, hv⟩ := h.look_ok Tryf.law3 Tryf.underlying24 (Tryf.zero22 w) (zd := .held nilS) (zp := []) rfl (key_wf h0 h1)
  rw [(hf i).1] at hv
  simp only [keepV, Option.some.injEq, Prod.mk.injEq, DataW.held.injEq] at hv
  rw [hrun, hv.1, (hf i).2]

/-- 'm[i] = v'. -/
theorem MapAt.update {w : World} {b n : Nat} {f : Int → Option Value} (h : MapAt w b n f) (hn : n < maxLen) {i : Int} (h0 : 0 ≤ i) (h1 : i ≤ 4611686018427387904) (v : Value) :
    ∃ w', (Instr.mapUpdate 24 (.map (some b)) (.int .i64 i) v).run Tryf.prog w = .ok () w' ∧ MapAt w' b (n + 1) (fun j => if j = i then some v else f j) ∧ w.grownBy w' (some b) := by
  obtain ⟨D, h, hf⟩ := h
  have hm := h.isMap
  obtain ⟨w', hrun, hown, hg⟩ := h.update Tryf.law3 Tryf.underlying24 hn (key_wf h0 h1) (val := v) (d := .held v) (ps := []) rfl
  refine ⟨w', hrun, ⟨_, hown, fun j => ?_⟩, hg⟩
  by_cases e : j = i
  · subst e
    rw [atKey_put_same hm (by trivial), has_put_same hm (by trivial)]
    simp
  · have hne : (Lit.int .i64 j) ≠ Lit.int .i64 i := fun h => e (by cases h; rfl)
    rw [atKey_put_other hne, has_put_other hne]
    simpa only [if_neg e] using hf j

/-- 'm[i] = v' at the operation. -/
theorem wpList_update (w : World) {ops : Array Oper} {rest : List Oper} {o : Oper} {a : Act} {Q : Exit → Act → World → Prop}
    (hg : o.guard = none) (m x v : Operand) (hop : o.op = Op.mapUpdate 24 m x v) (b n : Nat) (f : Int → Option Value) (hm : a.eval m = .map (some b)) (hown : MapAt w b n f) (hn : n < maxLen)
    (i : Int) (hx : a.eval x = .int .i64 i) (h0 : 0 ≤ i) (h1 : i ≤ 4611686018427387904) (val : Value) (hv : a.eval v = val)
    (hK : ∀ w', MapAt w' b (n + 1) (fun j => if j = i then some val else f j) → w.grownBy w' (some b) → wpList Tryf.prog ops Q rest (a.put o.dst undef) w') :
    wpList Tryf.prog ops Q (o :: rest) a w := by
  refine wpList_plain hg fun K' hK' => ?_
  obtain ⟨w', hrun, r1, r2⟩ := hown.update hn h0 h1 val
  unfold Oper.wp
  simp [execOp, hop, hm, hx, hv, hrun, Result.andThen]
  exact hK' _ _ (hK w' r1 r2)

/-- 'm[i]', 'v, ok := m[i]', 'len(m)' of a nil map. -/
theorem look_none {i : Int} (h0 : 0 ≤ i) (h1 : i ≤ 4611686018427387904) (w : World) : (Instr.lookup 24 (.map none) (.int .i64 i) false).run Tryf.prog w = .ok nilS w :=
  Maps.look_nil false Tryf.law3 Tryf.underlying24 (Tryf.zero22 w) (key_wf h0 h1)

/-- 'len(m)': some number. -/
theorem MapAt.len {w : World} {b n : Nat} {f : Int → Option Value} (h : MapAt w b n f) (ty : TypeId) : ∃ m : Nat, m ≤ n ∧ (Builtin.len_ #[24] ty #[.map (some b)]).run Tryf.prog w = .ok (.int .i64 m) w := by
  obtain ⟨D, h, _⟩ := h
  exact ⟨_, h.size_le, h.len Tryf.underlying24 ty⟩
end Go.Proofs.Qxb6628937aFmt
