/-
  A slice of fields that came in, opened.
-/
import Derived.Test.Qxb6628900aHeader
import Derived.ProofKit
import Derived.OpenShut
import Derived.ShutString
import Derived.ChangeOld
import Derived.Below
import Derived.Deep.SlicePairs
namespace Go.Proofs.Qxb6628900a
open Go.ChangeShapes Go.WideShapes Go.ChangeAt Go.RowKit Plain

theorem Try.own : ownKnob Try.prog.godebug = none := by kernel_rfl
theorem Try.laidOut : laidOutB Try.prog = true := by kernel_rfl
theorem Try.cells29 : Try.prog.cellsOf 29 = 2 := by kernel_rfl
theorem Try.cells9 : Try.prog.cellsOf 9 = 1 := by kernel_rfl

theorem open_fields {H : Type} {enc : TypeId × Value → H} {W : World} {a0 : Option Addr} {len0 cap0 fuel : Nat} {x : DataW H × List MemPlace}
    (h : DataW.trod enc Try.prog W 0 (fun _ => true) true fuel 22 [.slice a0 len0 cap0] = some x) :
    ∃ F : List (ByteArray × ByteArray), F.length = len0 ∧ (a0 = none → F = [] ∧ cap0 = 0) ∧ Held W a0 F ∧ F.length ≤ maxLen ∧ ∀ f ∈ F, f.1.size ≤ maxLen ∧ f.2.size ≤ maxLen := by
  rcases Go.Deep.open_slice_pairs Try.underlying22 Try.underlying29 Try.cells29 rfl rfl Try.cells9 Try.cells9 h with ⟨hcs, _⟩ | ⟨a, len, cap, m, n, V0, V1, D0, D1, P0, P1, hcs, _, hl, hm, hmm, hx, hi⟩
  · simp at hcs
    obtain ⟨rfl, rfl, rfl⟩ := hcs
    exact ⟨[], rfl, fun _ => ⟨rfl, rfl⟩, .inl rfl, Nat.zero_le _, fun f hf => by cases hf⟩
  · simp at hcs
    obtain ⟨rfl, rfl, rfl⟩ := hcs
    simp only [if_true] at hmm
    subst hmm
    have each : ∀ i, i < m → ∃ f : ByteArray × ByteArray, W.cell? (a.add (i * 2)) = some (.string f.1) ∧ W.cell? (a.add (i * 2 + 1)) = some (.string f.2) ∧ f.1.size ≤ maxLen ∧ f.2.size ≤ maxLen := by
      intro i hlt
      obtain ⟨c0, c1, t0, t1⟩ := hi i hlt
      obtain ⟨s0, e0, _, m0⟩ := DataW.trod_string Try.underlying9 t0
      obtain ⟨s1, e1, _, m1⟩ := DataW.trod_string Try.underlying9 t1
      simp at e0 e1
      exact ⟨(s0, s1), by rw [c0, e0], by rw [c1, e1], m0, m1⟩
    obtain ⟨f, hf⟩ := Go.Deep.choose_lt each
    refine ⟨(List.range len0).map f, by simp, (fun h => by cases h), ?_, (by simp; omega), ?_⟩
    · rcases Nat.eq_zero_or_pos len0 with h0 | hpos
      · subst h0; exact .inl rfl
      · right
        obtain ⟨b, off, spot⟩ := a
        have hspot : spot = none := by simpa [Addr.add] using World.cell?_spot (hf 0 (by omega)).1
        subst hspot
        refine ⟨b, off, rfl, World.block_lt_of_cell? W ⟨b, off + 0 * 2, none⟩ (u := .string (f 0).1) (by rw [← add_plain]; exact (hf 0 (by omega)).1), fun i hi => ?_⟩
        have hi' : i < len0 := by simpa using hi
        have := hf i (by omega)
        rw [add_plain, add_plain] at this
        simp only [List.getElem_map, List.getElem_range]
        exact ⟨this.1, by rw [Nat.add_assoc]; exact this.2.1⟩
    · intro g hg
      obtain ⟨i, hi, rfl⟩ := List.mem_map.1 hg
      exact (hf i (by have := List.mem_range.1 hi; omega)).2.2
end Go.Proofs.Qxb6628900a
