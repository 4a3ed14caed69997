/-
  'make' and 'copy' of a slice of bytes; the guards; what a slice that came in holds.
-/
import Derived.Test.Qxb6629990aDec
import Derived.Laws.CopyOwn
import Derived.Deep.OwnRows
namespace Go.Proofs.Qxb6629990a
open Go.RowKit Plain

theorem Try.info5 : (Try.prog.info? 5).map (fun i => (i.zero, i.size, i.bytes)) = some (some (.int .u8 0), 1, 1) := by kernel_rfl
theorem Try.size5 : (Try.prog.info? 5).map (·.size) = some 1 := by kernel_rfl

/-- The bytes that a slice from 'x' on holds. -/
def Holds (w : World) (x : Addr) (l : List Nat) : Prop := ∀ i (h : i < l.length), w.cell? (x.add i) = some (.int .u8 (l[i] : Int))

def cellB (l : List Nat) (i : Nat) : Value := .int .u8 ((l.getD i 0 : Nat) : Int)
theorem cellB_at {l : List Nat} {i : Nat} (h : i < l.length) : cellB l i = .int .u8 (l[i] : Int) := by simp [cellB, h]

theorem row_cells {W : World} {g : Nat} {l : List Nat} (h : W.rowIs g 5 l.length (cellB l)) : Cells W g 0 l := by
  intro k hk
  rw [Nat.zero_add, h.cell hk, cellB_at hk]

theorem holds_below {w w' : World} {x : Addr} {l : List Nat} (h : Holds w x l) (hb : Below w.heap.size w w') : Holds w' x l := fun i hi => (hb.cell (World.block_lt_of_cell? _ _ (h i hi))).trans (h i hi)

def fresh (w : World) (n : Nat) : World := w.alloc (.cells (madeCells #[.int .u8 0] n) 5)

theorem clone_run (x : Addr) (l : List Nat) (cap : Nat) (w : World) (hs : Holds w x l) :
    ∃ W2, (∀ ty, (Builtin.copy_ #[22, 22] ty #[.slice (some ⟨w.heap.size, 0, none⟩) l.length l.length, .slice (some x) l.length cap]).run Try.prog (w.alloc (.cells (madeCells #[.int .u8 0] l.length) 5)) = .ok (goInt l.length) W2) ∧
      W2.rowIs w.heap.size 5 l.length (cellB l) ∧ Below w.heap.size w W2 ∧ W2.heap.size = w.heap.size + 1 := by
  have hb : Below w.heap.size w (w.alloc (.cells (madeCells #[.int .u8 0] l.length) 5)) := (Below.refl _ w).alloc (Nat.le_refl _) _
  have hs' := holds_below hs hb
  obtain ⟨c, hg, hn, -⟩ := World.rowIs_made w (.int .u8 0) l.length 5
  have hsz : (w.alloc (.cells (madeCells #[.int .u8 0] l.length) 5)).heap.size = w.heap.size + 1 := by simp
  generalize w.alloc (.cells (madeCells #[.int .u8 0] l.length) 5) = W at hb hs' hg hsz
  have hrun := fun ty => run_copy_row (P := Try.prog) W 22 22 ty 5 w.heap.size 0 l.length l.length x l.length cap c 5 (l.map fun c : Nat => Value.int .u8 (c : Int)) Try.underlying22 Try.size5 hg (by simp)
    (fun j v hv => by
      obtain ⟨hj, rfl⟩ := List.getElem?_eq_some_iff.1 hv
      rw [List.length_map] at hj
      rw [List.getElem_map]
      exact hs' j hj)
    (by simp [hn]) (fun v hv => by
      obtain ⟨c, -, rfl⟩ := List.mem_map.1 hv
      rfl)
  simp only [List.length_map] at hrun
  refine ⟨_, hrun, ⟨_, setRow_heap W _ c _ 5 _ hg, ?_, fun i hi => ?_⟩, below_setRow hb (Nat.le_refl _) _, by simp [World.setRow, hsz]⟩
  · simp [hn]
  · simp [hn, cellB, hi]

/-- The guards answer some bool. -/
def Bool' (e : Ending) : Prop := ∃ r, e = .returned (.bool r)
theorem guard5 (a : Option Addr) (len cap : Nat) (n : Int) (h : len ≤ maxLen) (w : World) : Calls Try.prog 5 #[.slice a len cap, .int .i64 n] w fun e w' => w' = w ∧ Bool' e := by
  unfold maxLen at h
  go_enter Try.func5, Try.ntmps5
  go_wp2
  all_goals
    go_ret
    first | exact ⟨rfl, true, rfl⟩ | exact ⟨rfl, false, rfl⟩
theorem guard8 (a b : Option Addr) (len cap len2 cap2 : Nat) (n : Int) (h : len ≤ maxLen) (h2 : len2 ≤ maxLen) (w : World) : Calls Try.prog 8 #[.slice a len cap, .slice b len2 cap2, .int .i64 n] w fun e w' => w' = w ∧ Bool' e := by
  unfold maxLen at h h2
  go_enter Try.func8, Try.ntmps8
  go_wp2
  all_goals
    go_ret
    first | exact ⟨rfl, true, rfl⟩ | exact ⟨rfl, false, rfl⟩

theorem below_drewN {B : Nat} {a w : World} (h : Below B a w) (n : Nat) : Below B a (w.drewN n) := by
  induction n with
  | zero => exact h
  | succ n ih => exact ih.drew

end Go.Proofs.Qxb6629990a
