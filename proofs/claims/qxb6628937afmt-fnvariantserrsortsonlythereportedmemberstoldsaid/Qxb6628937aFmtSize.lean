/-
  A map of slices of strings that came in; the walk of zzSizeOK.
-/
import Derived.Test.Qxb6628937aFmtClone
namespace Go.Proofs.Qxb6628937aFmt
open Go.RowKit

/-- What a map of slices of strings holds at each key: nothing; a nil slice; a slice of strings. -/
abbrev Held := Nat → Option (Option (List (List UInt8)))
/-- .. the strings there. -/
def strs (g : Held) (i : Nat) : List (List UInt8) := ((g i).getD none).getD []

/-- A slice value and what it holds. -/
def SliceIs (w : World) (v : Value) (o : Option (List (List UInt8))) : Prop :=
  ∃ ao cap, v = .slice ao (o.getD []).length cap ∧ (ao = none ↔ o = none) ∧ (ao = none → cap = 0) ∧ StrsAt w ao (o.getD [])

theorem SliceIs.below {w w' : World} {v : Value} {o : Option (List (List UInt8))} (h : SliceIs w v o) (hb : Below w.heap.size w w') : SliceIs w' v o := by
  obtain ⟨ao, cap, h1, h2, h3, h4⟩ := h
  exact ⟨ao, cap, h1, h2, h3, h4.below hb⟩

/-- The map value m holds g. -/
def InMap (w : World) (m : Option Nat) (g : Held) : Prop :=
  (m = none ∧ ∀ i, g i = none) ∨ ∃ b n f, m = some b ∧ MapAt w b n f ∧ n ≤ 9223372036854775807 ∧ ∀ i : Nat, (f i).isSome = (g i).isSome ∧ SliceIs w ((f i).getD nilS) ((g i).getD none)

theorem grownBy_of_below {w w' : World} (h : Below w.heap.size w w') : w.grownBy w' none := ⟨h.os, h.tape, h.output, h.size, fun k hk _ => h.block k hk⟩
theorem below_of_grownBy {w w' : World} (h : w.grownBy w' none) : Below w.heap.size w w' := ⟨h.os, h.tape, h.output, h.size, fun k hk => h.block k hk (by simp)⟩

theorem InMap.below {w w' : World} {m : Option Nat} {g : Held} (h : InMap w m g) (hb : Below w.heap.size w w') : InMap w' m g := by
  rcases h with h | ⟨b, n, f, rfl, hM, hn, h⟩
  · exact .inl h
  · exact .inr ⟨b, n, f, rfl, hM.kept (grownBy_of_below hb) (by simp), hn, fun i => ⟨(h i).1, (h i).2.below hb⟩⟩

/-- 'm[k]'. -/
theorem InMap.look {w : World} {m : Option Nat} {g : Held} (h : InMap w m g) {k : Nat} (hk : k ≤ 1048576) :
    ∃ ao cap, (Instr.lookup 24 (.map m) (.int .i64 k) false).run Tryf.prog w = .ok (.slice ao (strs g k).length cap) w ∧ (ao = none ↔ (g k).getD none = none) ∧ (ao = none → cap = 0) ∧ StrsAt w ao (strs g k) := by
  rcases h with ⟨rfl, h⟩ | ⟨b, n, f, rfl, hM, hn, h⟩
  · have e : strs g k = [] := by unfold strs; rw [h k]; rfl
    refine ⟨none, 0, ?_, ?_, fun _ => rfl, .inl e⟩
    · rw [look_none (by omega) (by omega), e]; rfl
    · rw [h k]; simp
  · obtain ⟨ao, cap, h1, h2, h3, h4⟩ := (h k).2
    refine ⟨ao, cap, ?_, h2, h3, h4⟩
    rw [hM.look (by omega) (by omega), h1]
    rfl

/-- 'len(m)': some number. -/
theorem InMap.len {w : World} {m : Option Nat} {g : Held} (h : InMap w m g) (ty : TypeId) : ∃ c : Nat, c ≤ 9223372036854775807 ∧ (Builtin.len_ #[24] ty #[.map m]).run Tryf.prog w = .ok (.int .i64 c) w := by
  rcases h with ⟨rfl, h⟩ | ⟨b, n, f, rfl, hM, hn, h⟩
  · exact ⟨0, by omega, Maps.len_nil Tryf.underlying24 ty⟩
  · obtain ⟨c, hc, hr⟩ := hM.len ty
    exact ⟨c, by omega, hr⟩

/-- The call answers a bool; where it is true, R holds. -/
def Says (R : Prop) (e : Ending) : Prop := ∃ r, e = .returned (.bool r) ∧ (r = true → R)
theorem Says.no {R : Prop} : Says R (.returned (.bool false)) := ⟨false, rfl, fun h => by cases h⟩
theorem Says.yes {R : Prop} (h : R) : Says R (.returned (.bool true)) := ⟨true, rfl, fun _ => h⟩

/-- The first k slices are no longer than p. -/
def ShortTo (g : Held) (p k : Nat) : Prop := ∀ i, i < k → (strs g i).length ≤ p
theorem ShortTo.step {g : Held} {p k : Nat} (h : ShortTo g p k) (hk : (strs g k).length ≤ p) : ShortTo g p (k + 1) := by
  intro i hi
  by_cases e : i = k
  · subst e; exact hk
  · exact h i (by omega)

/-- What zzSizeOK's yes says. -/
def Fits (N : List (List UInt8)) (X : List Bool) (g : Held) (p : Nat) : Prop := N.length ≤ 65536 ∧ X.length ≤ 1048576 ∧ ShortTo g p N.length

set_option maxHeartbeats 1000000 in
theorem size_any (an : Option Addr) (N : List (List UInt8)) (cn : Nat) (ax : Option Addr) (X : List Bool) (cx : Nat) (m : Option Nat) (g : Held) (p : Nat) (w : World) (hp : p ≤ 65536)
    (hN : StrsAt w an N) (hM : InMap w m g) (hln : N.length ≤ maxLen) (hlx : X.length ≤ maxLen) (hsz : ∀ s ∈ N, s.length ≤ maxLen) (hlg : ∀ i, (strs g i).length ≤ maxLen) (hsg : ∀ i, ∀ s ∈ strs g i, s.length ≤ maxLen) :
    Calls Tryf.prog 5 #[.slice an N.length cn, .slice ax X.length cx, .map m, .int .i64 p] w fun e w' => w' = w ∧ Says (Fits N X g p) e := by
  unfold maxLen at hln hlx hsz hlg hsg
  by_cases h1 : N.length ≤ 65536
  · by_cases h2 : X.length ≤ 1048576
    · obtain ⟨c, hcb, hlen⟩ := hM.len 3
      go_enter Tryf.func5, Tryf.ntmps5
      go_wp2
      · go_ret
        exact ⟨rfl, Says.no⟩
      · clear hlen
        go_loop [9, 10] (fun t i => ∃ (k : Nat) (q : Int), k ≤ N.length ∧ i = .int .i64 k ∧ t = .int .i64 q) (fun _ i => N.length - (intOf i).toNat)
        case atStart => exact ⟨0, _, Nat.zero_le _, rfl, rfl⟩
        case round =>
          obtain ⟨k, q, hk, rfl, rfl⟩ := hrel
          by_cases hkl : k < N.length
          · rcases hN with rfl | ⟨b, off, rfl, hlt, hN⟩
            · exact absurd hkl (Nat.not_lt_zero _)
            have hc0 : w.cell? ⟨b, off + k, none⟩ = some (sv N[k]) := (hN k hkl).trans (by rw [cellS_at hkl])
            clear hsz hlg hsg hN
            go_wp2
            all_goals first
              | (go_ret
                 exact ⟨rfl, Says.no⟩)
              | (go_round
                 case rel => exact ⟨k + 1, _, by omega, by go_num, rfl⟩
                 case measure => simp [intOf]; omega)
          · obtain rfl : k = N.length := by omega
            clear hsz hk
            go_wp2
            go_loop [9, 11] (fun t i => ∃ (k : Nat) (q : Int), k ≤ N.length ∧ i = .int .i64 k ∧ t = .int .i64 q ∧ ShortTo g p k) (fun _ i => N.length - (intOf i).toNat)
            case atStart => exact ⟨0, _, Nat.zero_le _, rfl, rfl, fun i hi => absurd hi (Nat.not_lt_zero _)⟩
            case round =>
              obtain ⟨k, q, hk, rfl, rfl, hsh⟩ := hrel
              by_cases hkl2 : k < N.length
              · obtain ⟨ao, cap, hlk, _, _, hst⟩ := hM.look (k := k) (by omega)
                have hL := hlg k
                have hsL := hsg k
                clear hlg hsg
                generalize hS : strs g k = S at hlk hst hL hsL
                have HS : Hid (strs g k = S) := hS
                clear hS
                go_wp2
                · go_ret
                  exact ⟨rfl, Says.no⟩
                · go_ret
                  exact ⟨rfl, Says.no⟩
                · have hSp : S.length ≤ p := by omega
                  go_loop [9, 13] (fun t i => ∃ (j : Nat) (q : Int), j ≤ S.length ∧ i = .int .i64 j ∧ t = .int .i64 q) (fun _ i => S.length - (intOf i).toNat)
                  case atStart => exact ⟨0, _, Nat.zero_le _, rfl, rfl⟩
                  case round =>
                    obtain ⟨j, q2, hj, rfl, rfl⟩ := hrel
                    by_cases hjl : j < S.length
                    · rcases hst with rfl | ⟨b, off, rfl, hlt, hst⟩
                      · exact absurd hjl (Nat.not_lt_zero _)
                      have hc0 : w.cell? ⟨b, off + j, none⟩ = some (sv S[j]) := (hst j hjl).trans (by rw [cellS_at hjl])
                      clear hst hlk hsL
                      go_wp2
                      all_goals first
                        | (go_ret
                           exact ⟨rfl, Says.no⟩)
                        | (go_round
                           case rel => exact ⟨j + 1, _, by omega, by go_num, rfl⟩
                           case measure => simp [intOf]; omega)
                    · clear hlk hsL
                      go_wp2
                      go_round
                      case rel => exact ⟨k + 1, _, by omega, by go_num, rfl, hsh.step (by rw [HS.out]; exact hSp)⟩
                      case measure => simp [intOf]; omega
              · clear hlg hsg
                go_wp2
                go_ret
                exact ⟨rfl, Says.yes ⟨h1, h2, fun i hi => hsh i (by omega)⟩⟩
    · have hb1 : decide (65536 < (N.length : Int)) = false := decide_eq_false (by omega)
      have hb2 : decide (1048576 < (X.length : Int)) = true := decide_eq_true (by omega)
      go_enter Tryf.func5, Tryf.ntmps5
      go_wp2
      go_ret
      exact ⟨rfl, Says.no⟩
  · go_enter Tryf.func5, Tryf.ntmps5
    go_wp2
    go_ret
    exact ⟨rfl, Says.no⟩
end Go.Proofs.Qxb6628937aFmt
