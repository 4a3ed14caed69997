/-
  slices.Sort at []string, by the contract of the library's shelf, over rows of the call's own.
-/
import Derived.Test.Qxb6628937aFmtOthers
import Derived.Test.Qxb6628937aFmtShelf
import Derived.Sort.OwnSorted
namespace Go.Proofs.Qxb6628937aFmt
open Go.RowKit Go.Sort

/-- The strings in byte order. -/
def srt (S : List (List UInt8)) : List (List UInt8) := S.mergeSort fun x y => decide (x ≤ y)
theorem srt_length (S : List (List UInt8)) : (srt S).length = S.length := List.length_mergeSort S

theorem sort_block (g cap : Nat) (S : List (List UInt8)) (cur : Array Value) (w : World) (hb : w.heap[g]? = some (.cells cur 9 (0, 0))) (ht : cur.toList.take S.length = S.map encStr) (hl : S.length ≤ cur.size) (hs : S.length ≤ 1048576) :
    Calls Tryf.prog 13 #[.slice (some ⟨g, 0, none⟩) S.length cap] w fun e w' => e = .returned (.tuple #[]) ∧ w.grownBy w' (some g) ∧
      ∃ cur', w'.heap[g]? = some (.cells cur' 9 (0, 0)) ∧ cur'.size = cur.size ∧ cur'.toList.take S.length = (srt S).map encStr := by
  have hlt : g < w.heap.size := (Array.getElem?_eq_some_iff.1 hb).1
  refine (Any.slices_Sort_string Tryf.lays190 g 0 cap S w (holds_of_block hb ht) hlt (by omega)).mono fun e w' ⟨he, n, os, hw⟩ => ?_
  subst hw
  refine ⟨he, grownBy_sorted _, _, heap_sorted _ hb, by simp [putCells], ?_⟩
  have := take_putCells cur (srt S) (by rw [srt_length]; exact hl)
  rwa [srt_length] at this

theorem row_take {w : World} {g : Nat} {S : List (List UInt8)} (h : w.rowIs g 9 S.length (cellS S)) : ∃ cur, w.heap[g]? = some (.cells cur 9 (0, 0)) ∧ cur.size = S.length ∧ cur.toList.take S.length = S.map encStr := by
  obtain ⟨cur, hb, hn, hc⟩ := h
  refine ⟨cur, hb, hn, ?_⟩
  rw [List.take_of_length_le (by simp [hn])]
  apply List.ext_getElem?
  intro j
  by_cases hj : j < S.length
  · rw [Array.getElem?_toList, hc j hj, cellS_at hj]
    simp [hj]
  · rw [List.getElem?_eq_none (by simp [hn]; omega), List.getElem?_eq_none (by simp; omega)]

theorem take_cell {cur : Array Value} {S : List (List UInt8)} (h : cur.toList.take S.length = S.map encStr) {j : Nat} (hj : j < S.length) : cur[j]? = some (cellS S j) := by
  have h1 : (cur.toList.take S.length)[j]? = (S.map encStr)[j]? := by rw [h]
  rw [List.getElem?_take_of_lt hj] at h1
  rw [← Array.getElem?_toList, h1, cellS_at hj]
  simp [hj]

theorem take_row {w : World} {g : Nat} {S : List (List UInt8)} {cur : Array Value} (hb : w.heap[g]? = some (.cells cur 9 (0, 0))) (hn : cur.size = S.length) (ht : cur.toList.take S.length = S.map encStr) : w.rowIs g 9 S.length (cellS S) :=
  ⟨cur, hb, hn, fun _ hj => take_cell ht hj⟩

theorem sort_row (g cap : Nat) (S : List (List UInt8)) (w : World) (h : w.rowIs g 9 S.length (cellS S)) (hs : S.length ≤ 1048576) :
    Calls Tryf.prog 13 #[.slice (some ⟨g, 0, none⟩) S.length cap] w fun e w' => e = .returned (.tuple #[]) ∧ w.grownBy w' (some g) ∧ w'.rowIs g 9 S.length (cellS (srt S)) := by
  obtain ⟨cur, hb, hn, ht⟩ := row_take h
  refine (sort_block g cap S cur w hb ht (by omega) hs).mono fun e w' ⟨he, hg, cur', hb', hn', ht'⟩ => ?_
  refine ⟨he, hg, ?_⟩
  have := take_row (S := srt S) hb' (by rw [srt_length]; omega) (by rw [srt_length]; exact ht')
  rwa [srt_length] at this
end Go.Proofs.Qxb6628937aFmt
