/-
  The arguments opened: a slice of strings, a slice of bools, a map of slices of strings.
-/
import Derived.Test.Qxb6628937aFmtSize
import Derived.ProofKit
import Derived.OpenShut
import Derived.ShutString
import Derived.ChangeOld
import Derived.Below
import Derived.Deep.Slices
namespace Go.Proofs.Qxb6628937aFmt
open Go.ChangeShapes Go.WideShapes Go.ChangeAt Go.RowKit
open Go.WideElems (Fit rd rg rd_key rd_val rg_of elemAt)

theorem Tryf.own : ownKnob Tryf.prog.godebug = none := by kernel_rfl
theorem Tryf.laidOut : laidOutB Tryf.prog = true := by kernel_rfl
theorem Tryf.cells9 : Tryf.prog.cellsOf 9 = 1 := by kernel_rfl
theorem Tryf.cells4 : Tryf.prog.cellsOf 4 = 1 := by kernel_rfl

theorem addr_at {W : World} {a : Addr} {V : Nat → Value} {len : Nat} (h : ∀ i, i < len → W.cell? (a.add i) = some (V i)) (h0 : 0 < len) : ∃ b off, a = ⟨b, off, none⟩ ∧ b < W.heap.size ∧ ∀ i, i < len → W.cell? ⟨b, off + i, none⟩ = some (V i) := by
  obtain ⟨b, off, spot⟩ := a
  have hspot : spot = none := by simpa [Addr.add] using World.cell?_spot (h 0 h0)
  subst hspot
  have h' : ∀ i, i < len → W.cell? ⟨b, off + i, none⟩ = some (V i) := fun i hi => by rw [← add_plain]; exact h i hi
  exact ⟨b, off, rfl, World.block_lt_of_cell? W ⟨b, off + 0, none⟩ (h' 0 h0), h'⟩

theorem open_strs {H : Type} {enc : TypeId × Value → H} {W : World} {sp : Nat → Bool} {held : Bool} {fuel : Nat} {v : Value} {x : DataW H × List MemPlace}
    (h : DataW.trod enc Tryf.prog W 0 sp held fuel 22 [v] = some x) :
    ∃ ao cap S, v = .slice ao (List.length S) cap ∧ (ao = none → S = [] ∧ cap = 0) ∧ StrsAt W ao S ∧ S.length ≤ maxLen ∧ ∀ s ∈ S, s.length ≤ maxLen := by
  rcases Go.Deep.open_slice1 Tryf.underlying22 Tryf.cells9 h with ⟨hcs, _⟩ | ⟨a, len, cap, m, n, V, D, Pl, hcs, _, hl, hm, hmm, _, hi⟩
  · simp at hcs
    subst hcs
    exact ⟨none, 0, [], rfl, fun _ => ⟨rfl, rfl⟩, .inl rfl, Nat.zero_le _, fun f hf => by cases hf⟩
  · simp at hcs
    subst hcs
    have hlm : len ≤ m := by rw [hmm]; split <;> omega
    have each : ∀ i, i < len → ∃ s : List UInt8, V i = .string ⟨s.toArray⟩ ∧ s.length ≤ maxLen := by
      intro i hlt
      obtain ⟨s, e, _, ms⟩ := DataW.trod_string Tryf.underlying9 (hi i (by omega)).2
      simp at e
      refine ⟨s.data.toList, by rw [e], by simpa using ms⟩
    obtain ⟨f, hf⟩ := Go.Deep.choose_lt each
    have hlen : ((List.range len).map f).length = len := by simp
    refine ⟨some a, cap, (List.range len).map f, by rw [hlen], fun h => (by cases h), ?_, by rw [hlen]; omega, ?_⟩
    · rcases Nat.eq_zero_or_pos len with h0 | hpos
      · subst h0; exact .inl rfl
      · right
        obtain ⟨b, off, rfl, hb, hc⟩ := addr_at (fun i hlt => (hi i (by omega)).1) hpos
        refine ⟨b, off, rfl, hb, fun i hlt => ?_⟩
        rw [hlen] at hlt
        rw [hc i hlt, (hf i hlt).1]
        unfold cellS
        rw [List.getD_eq_getElem?_getD]
        simp [hlt]
    · intro s hs
      obtain ⟨i, hi', rfl⟩ := List.mem_map.1 hs
      exact (hf i (List.mem_range.1 hi')).2

theorem open_bools {H : Type} {enc : TypeId × Value → H} {W : World} {sp : Nat → Bool} {held : Bool} {fuel : Nat} {v : Value} {x : DataW H × List MemPlace}
    (h : DataW.trod enc Tryf.prog W 0 sp held fuel 23 [v] = some x) :
    ∃ ao cap S, v = .slice ao (List.length S) cap ∧ (ao = none → S = [] ∧ cap = 0) ∧ BoolsAt W ao S ∧ S.length ≤ maxLen := by
  rcases Go.Deep.open_slice1 Tryf.underlying23 Tryf.cells4 h with ⟨hcs, _⟩ | ⟨a, len, cap, m, n, V, D, Pl, hcs, _, hl, hm, hmm, _, hi⟩
  · simp at hcs
    subst hcs
    exact ⟨none, 0, [], rfl, fun _ => ⟨rfl, rfl⟩, .inl rfl, Nat.zero_le _⟩
  · simp at hcs
    subst hcs
    have hlm : len ≤ m := by rw [hmm]; split <;> omega
    have each : ∀ i, i < len → ∃ s : Bool, V i = .bool s := by
      intro i hlt
      obtain ⟨s, e, _⟩ := DataW.trod_bool Tryf.underlying4 (hi i (by omega)).2
      simp at e
      exact ⟨s, e⟩
    obtain ⟨f, hf⟩ := Go.Deep.choose_lt each
    have hlen : ((List.range len).map f).length = len := by simp
    refine ⟨some a, cap, (List.range len).map f, by rw [hlen], fun h => (by cases h), ?_, by rw [hlen]; omega⟩
    rcases Nat.eq_zero_or_pos len with h0 | hpos
    · subst h0; exact .inl rfl
    · right
      obtain ⟨b, off, rfl, hb, hc⟩ := addr_at (fun i hlt => (hi i (by omega)).1) hpos
      refine ⟨b, off, rfl, hb, fun i hlt => ?_⟩
      rw [hlen] at hlt
      rw [hc i hlt, hf i hlt, List.getD_eq_getElem?_getD]
      simp [hlt]

/-- An element of the map: a slice of strings. -/
theorem open_elem {H : Type} {enc : TypeId × Value → H} {W : World} {sp : Nat → Bool} {held : Bool} {n : Nat} {v : Value} {z : DataW H × List MemPlace} (h : elemAt enc Tryf.prog W 0 sp held n 22 v = some z) :
    ∃ o, SliceIs W v o ∧ (o.getD []).length ≤ maxLen ∧ ∀ s ∈ o.getD [], s.length ≤ maxLen := by
  unfold elemAt at h
  split at h
  · rename_i hf
    have hcs : v.cells.toList = [v] := by
      cases v <;> first | rfl | (simp [Value.formed, Tryf.underlying22] at hf)
    rw [hcs] at h
    obtain ⟨ao, cap, S, rfl, hn, hS, hl, hs⟩ := open_strs h
    cases ao with
    | none =>
      obtain ⟨rfl, rfl⟩ := hn rfl
      exact ⟨none, ⟨none, 0, rfl, by simp, fun _ => rfl, .inl rfl⟩, hl, hs⟩
    | some a => exact ⟨some S, ⟨some a, cap, rfl, by simp, fun h => (by cases h), hS⟩, hl, hs⟩
  · cases h

/-- What the keeper's datum holds at a key. -/
theorem kept_at {es : Array MapEntry} (hr : ∀ x ∈ es.toList, ∃ y, rd Tryf.prog 3 keepV x = some y) (kl : Lit) :
    ∃ o : Option Value, (DataW.map ((es.toList.map (rg Tryf.prog 3 keepV)).foldr DataW.insert [])).atKey kl (.held nilS) = .held (o.getD nilS) ∧
      Maps.has (DataW.map ((es.toList.map (rg Tryf.prog 3 keepV)).foldr DataW.insert [])) kl = o.isSome ∧ ∀ v, o = some v → ∃ x ∈ es.toList, x.val = v := by
  generalize hL : (es.toList.map (rg Tryf.prog 3 keepV)).foldr DataW.insert [] = L
  have hmem : ∀ p ∈ L, ∃ x ∈ es.toList, p.2 = .held x.val := by
    intro p hp
    rw [← hL] at hp
    obtain ⟨x, hx, rfl⟩ := List.mem_map.1 ((sorted_perm _).mem_iff.1 hp)
    obtain ⟨y, hy⟩ := hr x hx
    obtain ⟨z, hz, h2⟩ := rd_val hy
    refine ⟨x, hx, ?_⟩
    rw [rg_of hy, h2]
    unfold keepV at hz
    cases hz
    rfl
  cases hfd : L.find? (fun p => p.1.sameKey kl) with
  | none =>
    refine ⟨none, by simp [DataW.atKey, hfd], ?_, fun v h => by cases h⟩
    rw [Maps.has_eq]
    rw [List.find?_eq_none] at hfd
    simpa using hfd
  | some p =>
    obtain ⟨x, hx, e⟩ := hmem p (List.mem_of_find?_eq_some hfd)
    refine ⟨some x.val, by simp [DataW.atKey, hfd, e], ?_, fun v h => ⟨x, hx, Option.some.inj h⟩⟩
    rw [Maps.has_eq]
    simp only [Option.isSome_some, List.any_eq_true]
    exact ⟨p, List.mem_of_find?_eq_some hfd, by simpa using List.find?_some (p := fun p : Lit × DataW Value => p.1.sameKey kl) hfd⟩

theorem open_others {H : Type} {enc : TypeId × Value → H} {W : World} {sp : Nat → Bool} {held : Bool} {fuel : Nat} {v : Value} {x : DataW H × List MemPlace}
    (h : DataW.trod enc Tryf.prog W 0 sp held fuel 24 [v] = some x) :
    ∃ m g, v = .map m ∧ InMap W m g ∧ (∀ i, (strs g i).length ≤ maxLen) ∧ ∀ i, ∀ s ∈ strs g i, s.length ≤ maxLen := by
  rcases Go.WideElems.open_map Tryf.underlying24 h with ⟨hcs, _⟩ | ⟨b, es, clock, n, _, hcs, hb, _, F, _⟩
  · simp at hcs
    subst hcs
    exact ⟨none, fun _ => none, rfl, .inl ⟨rfl, fun _ => rfl⟩, fun i => Nat.zero_le _, fun i s hs => by cases hs⟩
  · simp at hcs
    subst hcs
    have hr : ∀ x ∈ es.toList, ∃ y, rd Tryf.prog 3 keepV x = some y := fun x hx => by
      obtain ⟨y, hy⟩ := F.reads x hx
      exact ⟨(y.1, .held x.val), by simp [rd, rd_key hy, keepV]⟩
    have hel : ∀ x ∈ es.toList, ∃ o, SliceIs W x.val o ∧ (o.getD []).length ≤ maxLen ∧ ∀ s ∈ o.getD [], s.length ≤ maxLen := fun x hx => by
      obtain ⟨y, hy⟩ := F.reads x hx
      obtain ⟨z, hz, _⟩ := rd_val hy
      exact open_elem hz
    have hown : W.ownsMap Tryf.prog 3 keepV b es.size (DataW.map ((es.toList.map (rg Tryf.prog 3 keepV)).foldr DataW.insert [])) := ⟨es, clock, hb, ⟨F.size, F.stamped, hr⟩, Nat.le_refl _, rfl⟩
    obtain ⟨f, hf⟩ := Classical.axiomOfChoice (fun i : Int => kept_at hr (.int .i64 i))
    have hone : ∀ i : Nat, ∃ o : Option (Option (List (List UInt8))), (f i).isSome = o.isSome ∧ SliceIs W ((f i).getD nilS) (o.getD none) ∧ ((o.getD none).getD []).length ≤ maxLen ∧ ∀ s ∈ (o.getD none).getD [], s.length ≤ maxLen := by
      intro i
      cases hfi : f i with
      | none => exact ⟨none, rfl, ⟨none, 0, rfl, by simp, fun _ => rfl, .inl rfl⟩, Nat.zero_le _, fun s hs => by cases hs⟩
      | some u =>
        obtain ⟨x, hx, rfl⟩ := (hf i).2.2 u hfi
        obtain ⟨o, h1, h2, h3⟩ := hel x hx
        exact ⟨some o, rfl, h1, h2, h3⟩
    obtain ⟨g, hg⟩ := Classical.axiomOfChoice hone
    refine ⟨some b, g, rfl, .inr ⟨b, es.size, f, rfl, ⟨_, hown, fun i => ⟨(hf i).1, (hf i).2.1⟩⟩, by have := F.size; unfold maxLen at this; omega, fun i => ⟨(hg i).1, (hg i).2.1⟩⟩, fun i => (hg i).2.2.1, fun i => (hg i).2.2.2⟩
end Go.Proofs.Qxb6628937aFmt
