/-
  The walks of zzCloneStrings and zzCloneBools.
-/
import Derived.Test.Qxb6628937aFmtMapAt
import Derived.Lib.SliceRun
namespace Go.Proofs.Qxb6628937aFmt
open Go.RowKit

/-- A string of those bytes, as it lies in a cell. -/
abbrev sv (s : List UInt8) : Value := .string ⟨s.toArray⟩
/-- Cell j of a row of strings. -/
def cellS (S : List (List UInt8)) (j : Nat) : Value := .string ⟨(S.getD j []).toArray⟩
theorem cellS_at {S : List (List UInt8)} {j : Nat} (h : j < S.length) : cellS S j = sv S[j] := by
  unfold cellS
  rw [List.getD_eq_getElem?_getD, List.getElem?_eq_getElem h]
  rfl

/-- The strings S lie behind a slice's address: of an empty slice nothing is known. -/
def StrsAt (w : World) (ao : Option Addr) (S : List (List UInt8)) : Prop :=
  S = [] ∨ ∃ b off, ao = some ⟨b, off, none⟩ ∧ b < w.heap.size ∧ ∀ i, i < S.length → w.cell? ⟨b, off + i, none⟩ = some (cellS S i)
/-- The bools likewise. -/
def BoolsAt (w : World) (ao : Option Addr) (S : List Bool) : Prop :=
  S = [] ∨ ∃ b off, ao = some ⟨b, off, none⟩ ∧ b < w.heap.size ∧ ∀ i, i < S.length → w.cell? ⟨b, off + i, none⟩ = some (.bool (S.getD i false))

theorem StrsAt.below {w w' : World} {ao : Option Addr} {S : List (List UInt8)} (h : StrsAt w ao S) (hb : Below w.heap.size w w') : StrsAt w' ao S := by
  rcases h with h | ⟨b, off, rfl, hlt, h⟩
  · exact .inl h
  · exact .inr ⟨b, off, rfl, Nat.lt_of_lt_of_le hlt hb.size, fun i hi => (hb.cell (p := ⟨b, off + i, none⟩) hlt).trans (h i hi)⟩
theorem BoolsAt.below {w w' : World} {ao : Option Addr} {S : List Bool} (h : BoolsAt w ao S) (hb : Below w.heap.size w w') : BoolsAt w' ao S := by
  rcases h with h | ⟨b, off, rfl, hlt, h⟩
  · exact .inl h
  · exact .inr ⟨b, off, rfl, Nat.lt_of_lt_of_le hlt hb.size, fun i hi => (hb.cell (p := ⟨b, off + i, none⟩) hlt).trans (h i hi)⟩

theorem Tryf.info9 : (Tryf.prog.info? 9).map (fun i => (i.zero, i.size, i.bytes)) = some (some (.string ⟨#[]⟩), 1, 16) := by kernel_rfl
theorem Tryf.info4 : (Tryf.prog.info? 4).map (fun i => (i.zero, i.size, i.bytes)) = some (some (.bool false), 1, 1) := by kernel_rfl

/-- Cell j when the first k are laid. -/
def uptoV (f : Nat → Value) (z : Value) (k j : Nat) : Value := if j < k then f j else z
theorem uptoV_step (f : Nat → Value) (z : Value) (k n : Nat) {x : Value} (hx : x = f k) : ∀ j, j < n → (if j = k then x else uptoV f z k j) = uptoV f z (k + 1) j := by
  intro j _
  unfold uptoV
  by_cases e : j = k
  · subst e; rw [if_pos rfl, if_pos (by omega), hx]
  · rw [if_neg e]
    by_cases l : j < k
    · rw [if_pos l, if_pos (by omega)]
    · rw [if_neg l, if_neg (by omega)]

set_option maxHeartbeats 400000 in
theorem cloneS_some (a : Addr) (S : List (List UInt8)) (cap : Nat) (w : World) (hS : StrsAt w (some a) S) (hl : S.length ≤ 1048576) :
    Calls Tryf.prog 6 #[.slice (some a) S.length cap] w fun e w' => e = .returned (.slice (some ⟨w.heap.size, 0, none⟩) S.length S.length) ∧ w'.rowIs w.heap.size 9 S.length (cellS S) ∧ Below w.heap.size w w' := by
  have hnil := fun wx => Lib.run_eql_slice_nil (P := Tryf.prog) wx 22 9 (some a) S.length cap 0 0 Tryf.underlying22
  have hmk := run_make_row' (P := Tryf.prog) 22 9 (.string ⟨#[]⟩) 16 Tryf.underlying22 Tryf.info9 rfl .i64 .i64 S.length (by omega) (by omega)
  go_enter Tryf.func6, Tryf.ntmps6
  go_wp2
  go_loopw [4] (fun i wr => ∃ k : Nat, k ≤ S.length ∧ i = .int .i64 k ∧ wr.rowIs w.heap.size 9 S.length (uptoV (cellS S) (.string ⟨#[]⟩) k) ∧ Below w.heap.size w wr) (fun i _ => S.length - (intOf i).toNat)
  case atStart => exact ⟨0, Nat.zero_le _, rfl, (World.rowIs_made w (.string ⟨#[]⟩) S.length 9).congr (fun j _ => by simp [uptoV]), (Below.refl _ _).alloc (Nat.le_refl _) _⟩
  case round =>
    obtain ⟨k, hk, rfl, hrow, hb⟩ := hrel
    by_cases hkl : k < S.length
    · rcases hS with rfl | ⟨b, off, ha, hlt, hS⟩
      · exact absurd hkl (Nat.not_lt_zero _)
      obtain rfl : a = ⟨b, off, none⟩ := Option.some.inj ha
      clear ha
      have hc0 : wr.cell? ⟨b, off + k, none⟩ = some (sv S[k]) := (hb.cell (p := ⟨b, off + k, none⟩) hlt).trans ((hS k hkl).trans (by rw [cellS_at hkl]))
      have g0 := hrow.cell (i := k) hkl
      have f0 := hrow.frozen k
      go_wp2
      go_roundw
      case rel => exact ⟨k + 1, by omega, by go_num, (hrow.set k _).congr (uptoV_step (cellS S) _ k S.length (cellS_at hkl).symm), hb.setCell (Nat.le_refl _) _⟩
      case measure => simp [intOf]; omega
    · obtain rfl : k = S.length := by omega
      go_wp2
      go_ret
      exact ⟨rfl, hrow.congr (fun j hj => if_pos hj), hb⟩

set_option maxHeartbeats 400000 in
theorem cloneB_some (a : Addr) (S : List Bool) (cap : Nat) (w : World) (hS : BoolsAt w (some a) S) (hl : S.length ≤ 1048576) :
    Calls Tryf.prog 7 #[.slice (some a) S.length cap] w fun e w' => e = .returned (.slice (some ⟨w.heap.size, 0, none⟩) S.length S.length) ∧ w'.rowIs w.heap.size 4 S.length (fun j => .bool (S.getD j false)) ∧ Below w.heap.size w w' := by
  have hnil := fun wx => Lib.run_eql_slice_nil (P := Tryf.prog) wx 23 4 (some a) S.length cap 0 0 Tryf.underlying23
  have hmk := run_make_row' (P := Tryf.prog) 23 4 (.bool false) 1 Tryf.underlying23 Tryf.info4 rfl .i64 .i64 S.length (by omega) (by omega)
  go_enter Tryf.func7, Tryf.ntmps7
  go_wp2
  go_loopw [4] (fun i wr => ∃ k : Nat, k ≤ S.length ∧ i = .int .i64 k ∧ wr.rowIs w.heap.size 4 S.length (uptoV (fun j => .bool (S.getD j false)) (.bool false) k) ∧ Below w.heap.size w wr) (fun i _ => S.length - (intOf i).toNat)
  case atStart => exact ⟨0, Nat.zero_le _, rfl, (World.rowIs_made w (.bool false) S.length 4).congr (fun j _ => by simp [uptoV]), (Below.refl _ _).alloc (Nat.le_refl _) _⟩
  case round =>
    obtain ⟨k, hk, rfl, hrow, hb⟩ := hrel
    by_cases hkl : k < S.length
    · rcases hS with rfl | ⟨b, off, ha, hlt, hS⟩
      · exact absurd hkl (Nat.not_lt_zero _)
      obtain rfl : a = ⟨b, off, none⟩ := Option.some.inj ha
      clear ha
      have eS : S.getD k false = S[k] := by rw [List.getD_eq_getElem?_getD, List.getElem?_eq_getElem hkl]; rfl
      have hc0 : wr.cell? ⟨b, off + k, none⟩ = some (.bool S[k]) := (hb.cell (p := ⟨b, off + k, none⟩) hlt).trans ((hS k hkl).trans (by rw [eS]))
      have HS : Hid (S.getD k false = S[k]) := eS
      clear eS
      have g0 := hrow.cell (i := k) hkl
      have f0 := hrow.frozen k
      go_wp2
      go_roundw
      case rel => exact ⟨k + 1, by omega, by go_num, (hrow.set k _).congr (uptoV_step _ _ k S.length (by rw [HS.out])), hb.setCell (Nat.le_refl _) _⟩
      case measure => simp [intOf]; omega
    · obtain rfl : k = S.length := by omega
      go_wp2
      go_ret
      exact ⟨rfl, hrow.congr (fun j hj => if_pos hj), hb⟩

theorem cloneS_none (w : World) : Calls Tryf.prog 6 #[.slice none 0 0] w fun e w' => e = .returned (.slice none 0 0) ∧ w' = w := by
  have hnil := fun wx => Lib.run_eql_slice_nil (P := Tryf.prog) wx 22 9 none 0 0 0 0 Tryf.underlying22
  go_enter Tryf.func6, Tryf.ntmps6
  go_wp2
  go_ret
  exact ⟨rfl, rfl⟩
theorem cloneB_none (w : World) : Calls Tryf.prog 7 #[.slice none 0 0] w fun e w' => e = .returned (.slice none 0 0) ∧ w' = w := by
  have hnil := fun wx => Lib.run_eql_slice_nil (P := Tryf.prog) wx 23 4 none 0 0 0 0 Tryf.underlying23
  go_enter Tryf.func7, Tryf.ntmps7
  go_wp2
  go_ret
  exact ⟨rfl, rfl⟩

/-- The clone of names: behind it the strings lie at its address. -/
theorem cloneS_any (ao : Option Addr) (S : List (List UInt8)) (cap : Nat) (w : World) (hn : ao = none → S = [] ∧ cap = 0) (hS : StrsAt w ao S) (hl : S.length ≤ 1048576) :
    Calls Tryf.prog 6 #[.slice ao S.length cap] w fun e w' => ∃ ao', e = .returned (.slice ao' S.length S.length) ∧ StrsAt w' ao' S ∧ Below w.heap.size w w' := by
  cases ao with
  | none =>
    obtain ⟨rfl, rfl⟩ := hn rfl
    refine (cloneS_none w).mono fun e w' ⟨he, hw⟩ => ?_
    subst he; subst hw
    exact ⟨none, rfl, .inl rfl, Below.refl _ _⟩
  | some a =>
    refine (cloneS_some a S cap w hS hl).mono fun e w' ⟨he, hr, hb⟩ => ?_
    subst he
    exact ⟨_, rfl, .inr ⟨_, _, rfl, hr.lt, fun i hi => by rw [Nat.zero_add]; exact hr.cell hi⟩, hb⟩
theorem cloneB_any (ao : Option Addr) (S : List Bool) (cap : Nat) (w : World) (hn : ao = none → S = [] ∧ cap = 0) (hS : BoolsAt w ao S) (hl : S.length ≤ 1048576) :
    Calls Tryf.prog 7 #[.slice ao S.length cap] w fun e w' => ∃ ao', e = .returned (.slice ao' S.length S.length) ∧ BoolsAt w' ao' S ∧ Below w.heap.size w w' := by
  cases ao with
  | none =>
    obtain ⟨rfl, rfl⟩ := hn rfl
    refine (cloneB_none w).mono fun e w' ⟨he, hw⟩ => ?_
    subst he; subst hw
    exact ⟨none, rfl, .inl rfl, Below.refl _ _⟩
  | some a =>
    refine (cloneB_some a S cap w hS hl).mono fun e w' ⟨he, hr, hb⟩ => ?_
    subst he
    exact ⟨_, rfl, .inr ⟨_, _, rfl, hr.lt, fun i hi => by rw [Nat.zero_add]; exact hr.cell hi⟩, hb⟩
end Go.Proofs.Qxb6628937aFmt
