/-
  The walk of zzCloneOthers; a map that the call itself has made, its slices in rows of their own.
-/
import Derived.Test.Qxb6628937aFmtSize
import Derived.Maps.OwnSet
namespace Go.Proofs.Qxb6628937aFmt
open Go.RowKit

/-- One entry of the call's own map: nothing; a nil slice; a slice over the whole of a row of its own. -/
def Entry (w : World) (base : Nat) (fi : Option Value) (gi : Nat) : Option (Option (List (List UInt8))) → Prop
  | none => fi = none
  | some none => fi = some nilS
  | some (some S) => fi = some (.slice (some ⟨gi, 0, none⟩) S.length S.length) ∧ base ≤ gi ∧ w.rowIs gi 9 S.length (cellS S)

/-- The entries, and that no two slices lie in one row. -/
def Content (w : World) (base : Nat) (f : Int → Option Value) (G : Nat → Nat) (g : Held) : Prop :=
  (∀ i : Nat, Entry w base (f i) (G i) (g i)) ∧ ∀ i j S T, g i = some (some S) → g j = some (some T) → i ≠ j → G i ≠ G j

/-- The call's own map m holds g. -/
def OwnMap (w : World) (base : Nat) (m : Option Nat) (g : Held) : Prop :=
  (m = none ∧ ∀ i, g i = none) ∨ ∃ b n f G, m = some b ∧ base ≤ b ∧ MapAt w b n f ∧ n ≤ 1048576 ∧ Content w base f G g

theorem Entry.kept {w w' : World} {base : Nat} {fi : Option Value} {gi : Nat} {o : Option (Option (List (List UInt8)))} {row : Option Nat} (h : Entry w base fi gi o) (hg : w.grownBy w' row) (hne : ∀ S, o = some (some S) → some gi ≠ row) : Entry w' base fi gi o := by
  match o, h with
  | none, h => exact h
  | some none, h => exact h
  | some (some S), ⟨h1, h2, h3⟩ => exact ⟨h1, h2, h3.of_block (hg.block gi h3.lt (hne S rfl))⟩

theorem Content.kept {w w' : World} {base : Nat} {f : Int → Option Value} {G : Nat → Nat} {g : Held} {row : Option Nat} (h : Content w base f G g) (hg : w.grownBy w' row) (hne : ∀ i S, g i = some (some S) → some (G i) ≠ row) : Content w' base f G g :=
  ⟨fun i => (h.1 i).kept hg (hne i), h.2⟩

theorem OwnMap.below {w w' : World} {base : Nat} {m : Option Nat} {g : Held} (h : OwnMap w base m g) (hb : Below w.heap.size w w') : OwnMap w' base m g := by
  rcases h with h | ⟨b, n, f, G, rfl, hbb, hM, hn, hC⟩
  · exact .inl h
  · exact .inr ⟨b, n, f, G, rfl, hbb, hM.kept (grownBy_of_below hb) (by simp), hn, hC.kept (grownBy_of_below hb) (by simp)⟩

/-- The first k keys of g. -/
def firstK (g : Held) (k : Nat) : Held := fun i => if i < k then g i else none
theorem firstK_zero (g : Held) : firstK g 0 = fun _ => none := by funext i; exact if_neg (by omega)
theorem firstK_skip {g : Held} {k : Nat} (h : g k = none) : firstK g (k + 1) = firstK g k := by
  funext i
  unfold firstK
  by_cases e : i = k
  · subst e; rw [if_pos (by omega), if_neg (by omega), h]
  · by_cases l : i < k
    · rw [if_pos (by omega), if_pos l]
    · rw [if_neg (by omega), if_neg l]

theorem Content.empty (w : World) (base : Nat) (G : Nat → Nat) : Content w base (fun _ => none) G (fun _ => none) :=
  ⟨fun _ => rfl, fun i j S T h => by cases h⟩

/-- One key more: v, which lies in a row that no key before has. -/
theorem Content.put {w : World} {base : Nat} {f : Int → Option Value} {G : Nat → Nat} {g : Held} {k : Nat} {v : Value} {r : Nat} (h : Content w base f G (firstK g k)) (hv : Entry w base (some v) r (g k))
    (hr : ∀ i S, firstK g k i = some (some S) → G i ≠ r) : Content w base (fun j => if j = (k : Int) then some v else f j) (fun i => if i = k then r else G i) (firstK g (k + 1)) := by
  have e1 : firstK g (k + 1) k = g k := if_pos (by omega)
  have e2 : ∀ i, i ≠ k → firstK g (k + 1) i = firstK g k i := fun i hi => by
    unfold firstK
    by_cases l : i < k
    · rw [if_pos (by omega), if_pos l]
    · rw [if_neg (by omega), if_neg l]
  refine ⟨fun i => ?_, fun i j S T hi hj hij => ?_⟩
  · by_cases e : i = k
    · subst e
      rw [e1]
      simpa using hv
    · rw [e2 i e]
      have : ¬ ((i : Int) = (k : Int)) := by omega
      simpa [this, e] using h.1 i
  · by_cases ei : i = k
    · subst ei
      have ej : ¬ j = i := fun h => hij h.symm
      rw [e2 j ej] at hj
      simp only [if_pos, if_neg ej]
      exact (hr j T hj).symm
    · rw [e2 i ei] at hi
      by_cases ej : j = k
      · subst ej
        simp only [if_pos, if_neg ei]
        exact hr i S hi
      · rw [e2 j ej] at hj
        simp only [if_neg ei, if_neg ej]
        exact h.2 i j S T hi hj hij

theorem strs_of {g : Held} {k : Nat} {S : List (List UInt8)} (h : g k = some (some S)) : strs g k = S := by unfold strs; rw [h]; rfl
theorem strs_nil {g : Held} {k : Nat} (h : g k = some none) : strs g k = [] := by unfold strs; rw [h]; rfl
theorem strs_none {g : Held} {k : Nat} (h : g k = none) : strs g k = [] := by unfold strs; rw [h]; rfl

/-- A row that lies in w is not one of those from w's end on. -/
theorem Content.fresh {w : World} {base : Nat} {f : Int → Option Value} {G : Nat → Nat} {g : Held} (h : Content w base f G g) : ∀ i S, g i = some (some S) → G i ≠ w.heap.size := by
  intro i S hi
  have := h.1 i
  rw [hi] at this
  exact Nat.ne_of_lt this.2.2.lt

/-- The map's own block is none of its rows. -/
theorem Content.notMap {w : World} {base b n : Nat} {f f' : Int → Option Value} {G : Nat → Nat} {g : Held} (h : Content w base f G g) (hM : MapAt w b n f') : ∀ i S, g i = some (some S) → some (G i) ≠ some b := by
  intro i S hi e
  have := h.1 i
  rw [hi] at this
  exact hM.isRow this.2.2 (Option.some.inj e)

/-- 'v, ok := m[k]' of a map that came in. -/
theorem InMap.look_ok {w : World} {b : Nat} {g : Held} (h : InMap w (some b) g) {k : Nat} (hk : k ≤ 1048576) :
    ∃ ao cap, (Instr.lookup 24 (.map (some b)) (.int .i64 k) true).run Tryf.prog w = .ok (.tuple #[.slice ao (strs g k).length cap, .bool (g k).isSome]) w ∧ (ao = none ↔ (g k).getD none = none) ∧ (ao = none → cap = 0) ∧ StrsAt w ao (strs g k) := by
  rcases h with ⟨h, _⟩ | ⟨b', n, f, hb, hM, hn, h⟩
  · cases h
  · obtain rfl := Option.some.inj hb
    obtain ⟨ao, cap, h1, h2, h3, h4⟩ := (h k).2
    refine ⟨ao, cap, ?_, h2, h3, h4⟩
    rw [hM.look_ok (by omega) (by omega), h1, (h k).1]
    rfl

set_option maxHeartbeats 1000000 in
theorem others_some (b : Nat) (g : Held) (n : Nat) (w : World) (hM : InMap w (some b) g) (hn : n ≤ 65536) (hs : ∀ i, i < n → (strs g i).length ≤ 65536) :
    Calls Tryf.prog 8 #[.map (some b), .int .i64 n] w fun e w' => e = .returned (.map (some w.heap.size)) ∧ OwnMap w' w.heap.size (some w.heap.size) (firstK g n) ∧ Below w.heap.size w w' := by
  have hnl := fun wx => run_eql_map_nil (P := Tryf.prog) wx 24 3 22 (some b) Tryf.underlying24
  have hmm := @run_makeMap Tryf.prog
  go_enter Tryf.func8, Tryf.ntmps8
  go_wp2
  clear hnl hmm
  go_loopw [6] (fun i wr => ∃ (k : Nat) (f : Int → Option Value) (G : Nat → Nat), k ≤ n ∧ i = .int .i64 k ∧ MapAt wr w.heap.size k f ∧ Content wr w.heap.size f G (firstK g k) ∧ Below w.heap.size w wr) (fun i _ => n - (intOf i).toNat)
  case atStart => exact ⟨0, _, fun _ => 0, Nat.zero_le _, rfl, MapAt.made w, by rw [firstK_zero]; exact Content.empty _ _ _, (Below.refl _ _).alloc (Nat.le_refl _) _⟩
  case round =>
    obtain ⟨k, f, G, hk, rfl, hO, hC, hb⟩ := hrel
    by_cases hkl : k < n
    · obtain ⟨ao, cap, hlk, hnone, hcap, hst⟩ := (hM.below hb).look_ok (k := k) (by omega)
      have hsk := hs k hkl
      clear hM hs
      match hgk : g k, hnone with
      | none, _ =>
        rw [strs_none hgk, hgk] at hlk
        have HG : Hid (g k = none) := hgk
        clear hgk hsk hst hcap
        go_wp2
        go_roundw
        case rel => exact ⟨k + 1, f, G, by omega, by go_num, hO.mono (Nat.le_succ _), by rw [firstK_skip HG.out]; exact hC, hb⟩
        case measure => simp [intOf]; omega
      | some none, hnone =>
        rw [strs_nil hgk, hgk, hnone.2 rfl, hcap (hnone.2 rfl)] at hlk
        have HG : Hid (g k = some none) := hgk
        clear hgk hsk hst hcap hnone
        go_wp2_with fail
        refine (cloneS_none _).mono ?_
        rintro e w5 ⟨rfl, hw5⟩
        subst hw5
        clear hlk
        go_wp2_with (at_mapUpdate; refine wpList_update _ rfl _ _ _ rfl w.heap.size k f rfl hO (by unfold maxLen; omega) (k : Int) rfl (by omega) (by omega) nilS rfl ?_; intro w6 hO6 hg6)
        have hC6 := Content.put (v := nilS) (r := w6.heap.size) (hC.kept hg6 (hC.notMap hO)) (by rw [HG.out]; rfl) ((hC.kept hg6 (hC.notMap hO)).fresh)
        go_roundw
        case rel => exact ⟨k + 1, _, _, by omega, by go_num, hO6, hC6, hb.grown hg6 hb.size (fun j hj => by cases hj; exact Nat.le_refl _)⟩
        case measure => simp [intOf]; omega
      | some (some S), hnone =>
        rw [strs_of hgk] at hlk hsk hst
        rw [hgk] at hlk
        have HG : Hid (g k = some (some S)) := hgk
        clear hgk hcap
        cases ao with
        | none => exact absurd (hnone.1 rfl) (by simp)
        | some a =>
          clear hnone
          go_wp2_with fail
          refine (cloneS_some _ _ _ _ hst (by omega)).mono ?_
          rintro e w5 ⟨rfl, hr5, hb5⟩
          have hO5 := hO.kept (grownBy_of_below hb5) (by simp)
          have hC5 := hC.kept (grownBy_of_below hb5) (by simp)
          have hfr := hC.fresh
          have hne : wr.heap.size ≠ w.heap.size := hO5.isRow hr5
          have HC : Hid (Content wr w.heap.size f G (firstK g k)) := hC
          clear hlk hO hC
          go_wp2_with (at_mapUpdate; refine wpList_update _ rfl _ _ _ rfl w.heap.size k f rfl hO5 (by unfold maxLen; omega) (k : Int) rfl (by omega) (by omega) (.slice (some ⟨wr.heap.size, 0, none⟩) S.length S.length) rfl ?_; intro w6 hO6 hg6)
          have hC6 := Content.put (v := .slice (some ⟨wr.heap.size, 0, none⟩) S.length S.length) (r := wr.heap.size) (hC5.kept hg6 (hC5.notMap hO5)) (by rw [HG.out]; exact ⟨rfl, hb.size, hr5.of_block (hg6.block _ hr5.lt (by simpa using hne))⟩) hfr
          go_roundw
          case rel => exact ⟨k + 1, _, _, by omega, by go_num, hO6, hC6, (hb.trans (hb5.mono hb.size)).grown hg6 (Nat.le_trans hb.size hb5.size) (fun j hj => by cases hj; exact Nat.le_refl _)⟩
          case measure => simp [intOf]; omega
    · obtain rfl : k = n := by omega
      clear hM hs
      go_wp2
      go_ret
      exact ⟨rfl, .inr ⟨_, _, f, G, rfl, Nat.le_refl _, hO, by omega, hC⟩, hb⟩

theorem others_any (m : Option Nat) (g : Held) (n : Nat) (w : World) (hM : InMap w m g) (hn : n ≤ 65536) (hs : ∀ i, i < n → (strs g i).length ≤ 65536) :
    Calls Tryf.prog 8 #[.map m, .int .i64 n] w fun e w' => ∃ m', e = .returned (.map m') ∧ OwnMap w' w.heap.size m' (firstK g n) ∧ Below w.heap.size w w' := by
  cases m with
  | some b => exact (others_some b g n w hM hn hs).mono fun e w' ⟨he, h⟩ => ⟨_, he, h⟩
  | none =>
    have h0 : ∀ i, g i = none := by
      rcases hM with ⟨_, h⟩ | ⟨b, _, _, hb, _⟩
      · exact h
      · cases hb
    have hnl := fun wx => run_eql_map_nil (P := Tryf.prog) wx 24 3 22 none Tryf.underlying24
    clear hM
    have H0 : Hid (∀ i, g i = none) := h0
    clear h0
    go_enter Tryf.func8, Tryf.ntmps8
    go_wp2
    go_ret
    exact ⟨none, rfl, .inl ⟨rfl, fun i => by unfold firstK; rw [H0.out i]; exact ite_self _⟩, Below.refl _ _⟩

set_option maxHeartbeats 400000 in
theorem new_any (vn vx : Value) (m : Option Nat) (w : World) (an ax : Option Addr) (ln cn lx cx : Nat) (hn : vn = .slice an ln cn) (hx : vx = .slice ax lx cx) :
    Calls Tryf.prog 9 #[vn, vx, .map m] w fun e w' => e = .returned (.pointer (some ⟨w.heap.size + 1, 0, none⟩)) ∧ w'.cell? ⟨w.heap.size + 1, 0, none⟩ = some (.pointer (some ⟨w.heap.size, 0, none⟩)) ∧ w'.cell? ⟨w.heap.size + 1, 1, none⟩ = some vx ∧
      w'.cell? ⟨w.heap.size + 1, 2, none⟩ = some (.map m) ∧ w'.cell? ⟨w.heap.size, 0, none⟩ = some vn ∧ Below w.heap.size w w' := by
  subst hn
  subst hx
  go_enter Tryf.func9, Tryf.ntmps9
  go_wp2
  go_ret
  refine ⟨rfl, ?_, ?_, ?_, ?_, ((Below.refl _ _).alloc (Nat.le_refl _) _).alloc (by simp) _⟩
  all_goals go_simp
end Go.Proofs.Qxb6628937aFmt
