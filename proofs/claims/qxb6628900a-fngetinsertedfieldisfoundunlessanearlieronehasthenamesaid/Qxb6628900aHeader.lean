/-
  The walk of toHeader; rows of fields that the call itself lays.
-/
import Derived.Test.Qxb6628900aGuard
import Derived.Lib.SliceRun
namespace Go.Proofs.Qxb6628900a
open Go.RowKit Plain

theorem Try.info30 : (Try.prog.info? 30).map (fun i => (i.zero, i.size, i.bytes)) = some (some (.agg #[.string ⟨#[]⟩, .string ⟨#[]⟩]), 2, 32) := by kernel_rfl

/-- 'make(http1.Header, l, c)'. -/
theorem make_header (l c : Int) (h0 : 0 ≤ l) (h1 : l ≤ c) (h2 : c ≤ 4194304) (w : World) :
    (Instr.makeSlice 26 (.int .i64 l) (.int .i64 c)).run Try.prog w = .ok (.slice (some ⟨w.heap.size, 0, none⟩) l.toNat c.toNat) (w.alloc (.cells (madeCells #[.string ⟨#[]⟩, .string ⟨#[]⟩] (c.toNat * 2)) 30)) := by
  obtain ⟨i, hi, hz, hs, hb⟩ := info_parts Try.info30
  have := run_make (P := Try.prog) w 26 30 i _ Try.underlying26 hi hz .i64 .i64 l c h0 h1 (by rw [hb]; omega) (by omega)
  rw [hs] at this
  exact this

/-- Cell j of the new row when the first k fields are laid. -/
def pcell (G : List (ByteArray × ByteArray)) (k j : Nat) : Value :=
  if j / 2 < k then (if j % 2 = 0 then .string (G.getD (j / 2) (⟨#[]⟩, ⟨#[]⟩)).1 else .string (G.getD (j / 2) (⟨#[]⟩, ⟨#[]⟩)).2) else .string ⟨#[]⟩

theorem pcell_zero (G : List (ByteArray × ByteArray)) (j : Nat) : pcell G 0 j = .string ⟨#[]⟩ := if_neg (by omega)

theorem made_pairs (w : World) (n : Nat) (G : List (ByteArray × ByteArray)) : (w.alloc (.cells (madeCells #[.string ⟨#[]⟩, .string ⟨#[]⟩] (n * 2)) 30)).rowIs w.heap.size 30 (n * 2) (pcell G 0) :=
  ⟨_, Go.Deep.blk_alloc_new _ _, size_madeCells _ _, fun i hi => by
    rw [pcell_zero]
    simp only [madeCells, Array.getElem?_map, Array.getElem?_range, hi, if_true, Option.map_some]
    rcases Nat.mod_two_eq_zero_or_one i with h | h <;> simp [h]⟩

theorem pcell_step {w : World} {g n k : Nat} {G : List (ByteArray × ByteArray)} (hk : k < G.length) (h : w.rowIs g 30 (n * 2) (pcell G k)) :
    ((w.setCell ⟨g, k * 2, none⟩ (.string G[k].1)).setCell ⟨g, k * 2 + 1, none⟩ (.string G[k].2)).rowIs g 30 (n * 2) (pcell G (k + 1)) := by
  refine ((h.set (k * 2) _).set (k * 2 + 1) _).congr fun j _ => ?_
  have e : G.getD k (⟨#[]⟩, ⟨#[]⟩) = G[k] := by rw [List.getD_eq_getElem?_getD, List.getElem?_eq_getElem hk]; rfl
  unfold pcell
  by_cases e1 : j = k * 2 + 1
  · have a : j / 2 = k := by omega
    have b : ¬ j % 2 = 0 := by omega
    rw [if_pos e1, a, if_pos (by omega), if_neg b, e]
  · rw [if_neg e1]
    by_cases e0 : j = k * 2
    · have a : j / 2 = k := by omega
      have b : j % 2 = 0 := by omega
      rw [if_pos e0, a, if_pos (by omega), if_pos b, e]
    · rw [if_neg e0]
      by_cases l : j / 2 < k
      · rw [if_pos l, if_pos (show j / 2 < k + 1 by omega)]
      · rw [if_neg l, if_neg (by omega)]

theorem pcell_step' {w : World} {g n k : Nat} {G : List (ByteArray × ByteArray)} {a b : ByteArray} (hk : k < G.length) (e : G[k] = (a, b)) (h : w.rowIs g 30 (n * 2) (pcell G k)) :
    ((w.setCell ⟨g, k * 2, none⟩ (.string a)).setCell ⟨g, k * 2 + 1, none⟩ (.string b)).rowIs g 30 (n * 2) (pcell G (k + 1)) := by
  have := pcell_step hk h
  rwa [e] at this

theorem pcell_has {w : World} {g n : Nat} {G : List (ByteArray × ByteArray)} (hn : G.length ≤ n) (h : w.rowIs g 30 (n * 2) (pcell G G.length)) : Has w g 0 G := by
  intro i hi
  have e : G.getD i (⟨#[]⟩, ⟨#[]⟩) = G[i] := by rw [List.getD_eq_getElem?_getD, List.getElem?_eq_getElem hi]; rfl
  have h0 := h.cell (i := i * 2) (by omega)
  have h1 := h.cell (i := i * 2 + 1) (by omega)
  unfold pcell at h0 h1
  rw [show i * 2 / 2 = i by omega, if_pos hi, if_pos (by omega), e] at h0
  rw [show (i * 2 + 1) / 2 = i by omega, if_pos hi, if_neg (by omega), e] at h1
  rw [Nat.zero_add]
  exact ⟨h0, h1⟩

set_option maxHeartbeats 400000 in
theorem header_some (a : Addr) (F : List (ByteArray × ByteArray)) (cap : Nat) (w : World) (hF : Held w (some a) F) (hl : F.length ≤ 2097152) :
    Calls Try.prog 7 #[.slice (some a) F.length cap] w fun e w' => ∃ ao, e = .returned (.slice ao F.length F.length) ∧ Held w' ao F ∧ Below w.heap.size w w' := by
  have hnil := fun wx => Lib.run_eql_slice_nil (P := Try.prog) wx 22 29 (some a) F.length cap 0 0 Try.underlying22
  have hmk := fun wx => make_header F.length F.length (by omega) (by omega) (by omega) wx
  simp only [Int.toNat_natCast] at hmk
  go_enter Try.func7, Try.ntmps7
  go_wp2
  go_loopw [4] (fun i wr => ∃ k : Nat, k ≤ F.length ∧ i = .int .i64 k ∧ wr.rowIs w.heap.size 30 (F.length * 2) (pcell F k) ∧ Below w.heap.size w wr) (fun i _ => F.length - (intOf i).toNat)
  case atStart => exact ⟨0, Nat.zero_le _, rfl, made_pairs _ _ _, (Below.refl _ _).alloc (Nat.le_refl _) _⟩
  case round =>
    obtain ⟨k, hk, rfl, hrow, hb⟩ := hrel
    by_cases hkl : k < F.length
    · rcases hF with rfl | ⟨b, off, ha, hlt, hF⟩
      · exact absurd hkl (Nat.not_lt_zero _)
      obtain rfl : a = ⟨b, off, none⟩ := Option.some.inj ha
      clear ha
      have hc0 := ((hF.below hb hlt) k hkl).1
      have hc1 := ((hF.below hb hlt) k hkl).2
      have g0 := hrow.cell (i := k * 2) (by omega)
      have g1 := hrow.cell (i := k * 2 + 1) (by omega)
      have f0 := hrow.frozen (k * 2)
      have f1 := hrow.frozen (k * 2 + 1)
      go_wp2
      go_region
      go_wp2
      go_roundw
      case rel => exact ⟨k + 1, by omega, by go_num, pcell_step hkl hrow, ((hb.setCell (Nat.le_refl _) _).setCell (Nat.le_refl _) _).drew⟩
      case measure => simp [intOf]; omega
    · obtain rfl : k = F.length := by omega
      go_wp2
      go_ret
      exact ⟨_, rfl, .inr ⟨w.heap.size, 0, rfl, hrow.lt, pcell_has (Nat.le_refl _) hrow⟩, hb⟩

theorem header_any (ao : Option Addr) (F : List (ByteArray × ByteArray)) (cap : Nat) (w : World) (hnil : ao = none → F = [] ∧ cap = 0) (hF : Held w ao F) (hl : F.length ≤ 2097152) :
    Calls Try.prog 7 #[.slice ao F.length cap] w fun e w' => ∃ ao, e = .returned (.slice ao F.length F.length) ∧ Held w' ao F ∧ Below w.heap.size w w' := by
  cases ao with
  | some a => exact header_some a F cap w hF hl
  | none =>
    obtain ⟨rfl, rfl⟩ := hnil rfl
    have hnl := fun wx => Lib.run_eql_slice_nil (P := Try.prog) wx 22 29 none 0 0 0 0 Try.underlying22
    go_enter Try.func7, Try.ntmps7
    go_wp2
    go_ret
    exact ⟨none, rfl, .inl rfl, Below.refl _ _⟩

/-- What Get reads, said otherwise. -/
theorem get_is (ao : Option Addr) (F : List (ByteArray × ByteArray)) (n cap : Nat) (q X : ByteArray) (w : World) (hlen : F.length = n) (hX : getF F q = X) (hF : Held w ao F) (hl : n ≤ 2097152) (hn : ∀ f ∈ F, f.1.size ≤ 1048576) :
    Calls Try.prog 9 #[.slice ao n cap, .string q] w fun e w' => e = .returned (.string X) ∧ Below w.heap.size w w' := by
  subst hlen
  subst hX
  exact get_any ao F cap q w hF hl hn

/-- The plain cases of the first match. -/
theorem first_cases : ∀ (F : List (ByteArray × ByteArray)) (q : ByteArray), (∀ i (h : i < F.length), same F[i].1 q = false) ∨ ∃ (k : Nat) (h : k < F.length), same F[k].1 q = true ∧ ∀ i (h : i < F.length), i < k → same F[i].1 q = false
  | [], _ => .inl fun i h => absurd h (Nat.not_lt_zero _)
  | f :: F, q => by
    cases e : same f.1 q with
    | true => exact .inr ⟨0, by simp, e, fun i _ h => absurd h (Nat.not_lt_zero _)⟩
    | false =>
      rcases first_cases F q with h | ⟨k, hk, h1, h2⟩
      · refine .inl fun i hi => ?_
        match i, hi with
        | 0, _ => exact e
        | i + 1, hi => exact h i (by simpa using hi)
      · refine .inr ⟨k + 1, by simpa using hk, h1, fun i hi hik => ?_⟩
        match i, hi with
        | 0, _ => exact e
        | i + 1, hi => exact h2 i (by simpa using hi) (by omega)

theorem first_no (ao : Option Addr) (F : List (ByteArray × ByteArray)) (cap : Nat) (q : ByteArray) (w : World) (hF : Held w ao F) (hl : F.length ≤ 2097152) (hq : q.size ≤ 1048576) (hn : ∀ f ∈ F, f.1.size ≤ 1048576)
    (hA : ∀ i (h : i < F.length), same F[i].1 q = false) :
    Calls Try.prog 10 #[.slice ao F.length cap, .string q] w fun e w' => e = .returned (.int .i64 (-1)) ∧ Below w.heap.size w w' := by
  refine (first_any ao F cap q w hF hl hq hn).mono fun e w' ⟨hb, h⟩ => ?_
  rcases h with ⟨rfl, _⟩ | ⟨k, hk, _, h1, _⟩
  · exact ⟨rfl, hb⟩
  · rw [hA k hk] at h1; cases h1

theorem first_at (ao : Option Addr) (F : List (ByteArray × ByteArray)) (cap : Nat) (q : ByteArray) (w : World) (hF : Held w ao F) (hl : F.length ≤ 2097152) (hq : q.size ≤ 1048576) (hn : ∀ f ∈ F, f.1.size ≤ 1048576)
    (k : Nat) (hk : k < F.length) (h1 : same F[k].1 q = true) (h2 : ∀ i (h : i < F.length), i < k → same F[i].1 q = false) :
    Calls Try.prog 10 #[.slice ao F.length cap, .string q] w fun e w' => e = .returned (.int .i64 k) ∧ Below w.heap.size w w' := by
  refine (first_any ao F cap q w hF hl hq hn).mono fun e w' ⟨hb, h⟩ => ?_
  rcases h with ⟨_, h⟩ | ⟨j, hj, rfl, g1, g2⟩
  · rw [h k hk] at h1; cases h1
  · have : j = k := by
      rcases Nat.lt_trichotomy j k with h | h | h
      · rw [h2 j hj h] at g1; cases g1
      · exact h
      · rw [g2 k hk h] at h1; cases h1
    subst this
    exact ⟨rfl, hb⟩
end Go.Proofs.Qxb6628900a
