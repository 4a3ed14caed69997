/-
  The walk of FnVariantsErrReportsExactlyWhenSomeNameHasCaseVariants.
-/
import Derived.Test.Qxb6628937aFmtErr
namespace Go.Proofs.Qxb6628937aFmt
open Go.RowKit

/-- Has one of the first k names a member? -/
def hitTo (g : Held) : Nat → Bool
  | 0 => false
  | k + 1 => hitTo g k || !(strs g k).isEmpty

theorem hitTo_no {g : Held} : ∀ {k : Nat}, (∀ i, i < k → strs g i = []) → hitTo g k = false
  | 0, _ => rfl
  | k + 1, h => by
    unfold hitTo
    rw [hitTo_no (fun i hi => h i (by omega)), h k (by omega)]
    rfl
theorem hitTo_yes {g : Held} : ∀ {k t : Nat}, t < k → strs g t ≠ [] → hitTo g k = true
  | 0, _, h, _ => absurd h (Nat.not_lt_zero _)
  | k + 1, t, h, hs => by
    unfold hitTo
    by_cases e : t = k
    · subst e
      cases hx : strs g t with
      | nil => exact absurd hx hs
      | cons a l => simp
    · rw [hitTo_yes (k := k) (t := t) (by omega) hs]
      rfl

/-- The first name that has a member, or none. -/
theorem first_hit (g : Held) : ∀ n, (∀ i, i < n → strs g i = []) ∨ ∃ t, t < n ∧ strs g t ≠ [] ∧ ∀ i, i < t → strs g i = []
  | 0 => .inl fun i hi => absurd hi (Nat.not_lt_zero _)
  | n + 1 => by
    rcases first_hit g n with h | ⟨t, ht, hs, hb⟩
    · cases hx : strs g n with
      | nil =>
        refine .inl fun i hi => ?_
        by_cases e : i = n
        · subst e; exact hx
        · exact h i (by omega)
      | cons a l => exact .inr ⟨n, by omega, by rw [hx]; simp, h⟩
    · exact .inr ⟨t, by omega, hs, hb⟩

theorem strs_some {g : Held} {t : Nat} (h : strs g t ≠ []) : g t = some (some (strs g t)) := by
  unfold strs at h ⊢
  cases hg : g t with
  | none => rw [hg] at h; exact absurd rfl h
  | some o =>
    cases o with
    | none => rw [hg] at h; exact absurd rfl h
    | some S => rfl

theorem strs_firstK {g : Held} {n i : Nat} (h : i < n) : strs (firstK g n) i = strs g i := by unfold strs firstK; rw [if_pos h]

/-- Err where some name has a member: an error; only the call's own memory is written. -/
theorem err_hit (p q : Nat) (an : Option Addr) (N : List (List UInt8)) (cn : Nat) (ax : Option Addr) (X : List Bool) (cx : Nat) (m : Option Nat) (g : Held) (base : Nat) (w : World)
    (c0 : w.cell? ⟨p, 0, none⟩ = some (.pointer (some ⟨q, 0, none⟩))) (c1 : w.cell? ⟨p, 1, none⟩ = some (.slice ax X.length cx)) (c2 : w.cell? ⟨p, 2, none⟩ = some (.map m)) (c3 : w.cell? ⟨q, 0, none⟩ = some (.slice an N.length cn))
    (hN : StrsAt w an N) (hX : BoolsAt w ax X) (hNX : X.length = N.length) (hM : OwnMap w base m g) (hbase : base ≤ w.heap.size) (hl : N.length ≤ 65536) (t : Nat) (ht : t < N.length) (hA : ∀ i, i < t → strs g i = []) (hS : strs g t ≠ []) (hs : (strs g t).length ≤ 65536) :
    Calls Tryf.prog 10 #[.pointer (some ⟨p, 0, none⟩)] w fun e w' => (∃ v, e = .returned (.iface 51 v)) ∧ Below base w w' := by
  have hg := strs_some hS
  have h1 : 1 ≤ (strs g t).length := by
    cases hx : strs g t with
    | nil => exact absurd hx hS
    | cons a l => simp
  cases hx : X.getD t false with
  | true => exact (err_exact p q an N cn ax X cx m g base w c0 c1 c2 c3 hN hX hNX hM hl t ht hA _ hg h1 hs hx).mono fun e w' ⟨he, hb⟩ => ⟨he, hb.mono hbase⟩
  | false =>
    by_cases h2 : 2 ≤ (strs g t).length
    · refine (err_sort p q an N cn ax X cx m g base w c0 c1 c2 c3 hN hX hNX hM hl t ht hA _ hg h2 hs hx).mono fun e w' ⟨he, r, _, hbr, hgr, _⟩ => ⟨he, ?_⟩
      exact (Below.refl base w).grown hgr hbase (fun k hk => by cases hk; exact hbr)
    · obtain ⟨s, hs1⟩ : ∃ s, strs g t = [s] := by
        match hx : strs g t, h1, h2 with
        | [s], _, _ => exact ⟨s, rfl⟩
        | [], h, _ => simp at h
        | _ :: _ :: _, _, h => simp at h
      rw [hs1] at hg
      exact (err_one p q an N cn ax X cx m g base w c0 c1 c2 c3 hN hX hNX hM hl t ht hA s hg hx).mono fun e w' ⟨he, hb⟩ => ⟨he, hb.mono hbase⟩

set_option maxHeartbeats 1000000 in
theorem lawA_big (an : Option Addr) (N : List (List UInt8)) (cn : Nat) (ax : Option Addr) (X : List Bool) (cx : Nat) (m : Option Nat) (g : Held) (w : World) (hnn : an = none → N = [] ∧ cn = 0) (hxn : ax = none → X = [] ∧ cx = 0)
    (hN : StrsAt w an N) (hX : BoolsAt w ax X) (hM : InMap w m g) (hln : N.length ≤ maxLen) (hlx : X.length ≤ maxLen) (hsz : ∀ s ∈ N, s.length ≤ maxLen) (hlg : ∀ i, (strs g i).length ≤ maxLen) (hsg : ∀ i, ∀ s ∈ strs g i, s.length ≤ maxLen) :
    Calls Tryf.prog 3 #[.slice an N.length cn, .slice ax X.length cx, .map m] w fun e w' => e = .returned (.bool true) ∧ Below w.heap.size w w' := by
  go_enter Tryf.func3, Tryf.ntmps3
  go_wp2_with fail
  refine (size_any an N cn ax X cx m g 65536 w (by omega) hN hM hln hlx hsz hlg hsg).mono ?_
  rintro e w1 ⟨hw1, r, rfl, hr⟩
  subst hw1
  clear hsz hlg hsg
  cases r with
  | false =>
    clear hr
    go_wp2
    go_ret
    exact ⟨rfl, Below.refl _ _⟩
  | true =>
    obtain ⟨hN1, hX1, hsh⟩ := hr rfl
    clear hr hln hlx
    by_cases hNX : X.length = N.length
    · have hz : ((X.length : Int) != (N.length : Int)) = false := by simp [hNX]
      have HNX : Hid (X.length = N.length) := hNX
      clear hNX
      go_wp2_with fail
      refine (cloneS_any an N cn _ hnn hN (by omega)).mono ?_
      rintro e w2 ⟨an2, rfl, hN2, hb2⟩
      have hX2 := hX.below hb2
      have hM2 := hM.below hb2
      clear hN hX hM
      go_wp2_with fail
      refine (cloneB_any ax X cx _ hxn hX2 (by omega)).mono ?_
      rintro e w3 ⟨ax3, rfl, hX3, hb3⟩
      have hN3 := hN2.below hb3
      have hM3 := hM2.below hb3
      clear hN2 hX2 hM2
      go_wp2_with fail
      refine (others_any m g N.length _ hM3 (by omega) hsh).mono ?_
      rintro e w4 ⟨m4, rfl, hO4, hb4⟩
      have hN4 := hN3.below hb4
      have hX4 := hX3.below hb4
      clear hN3 hX3 hM3
      have hbb : Below w1.heap.size w1 w4 := (hb2.trans (hb3.mono hb2.size)).trans (hb4.mono (Nat.le_trans hb2.size hb3.size))
      have hbs : w1.heap.size ≤ w3.heap.size := Nat.le_trans hb2.size hb3.size
      have hs34 : w3.heap.size ≤ w4.heap.size := hb4.size
      clear hb2 hb3 hb4
      have hI := hO4.inMap
      go_wp2
      go_loop [8, 9] (fun v i => ∃ k : Nat, k ≤ N.length ∧ i = .int .i64 k ∧ v = .bool (hitTo g k)) (fun _ i => N.length - (intOf i).toNat)
      case atStart => exact ⟨0, Nat.zero_le _, rfl, rfl⟩
      case round =>
        obtain ⟨k, hk, rfl, rfl⟩ := hrel
        by_cases hkl : k < N.length
        · obtain ⟨ao, cap, hlk, _, _, _⟩ := hI.look (k := k) (by omega)
          rw [strs_firstK hkl] at hlk
          have hk1 : Hid (hitTo g (k + 1) = (hitTo g k || !(strs g k).isEmpty)) := rfl
          clear hI hO4
          cases hS : strs g k with
          | nil =>
            rw [hS] at hlk
            have HS : Hid (strs g k = []) := hS
            clear hS
            go_wp2
            go_round
            case rel => exact ⟨k + 1, by omega, by go_num, by rw [hk1.out, HS.out]; simp⟩
            case measure => simp [intOf]; omega
          | cons a l =>
            rw [hS] at hlk
            have HS : Hid (strs g k = a :: l) := hS
            clear hS
            go_wp2
            go_round
            case rel => exact ⟨k + 1, by omega, by go_num, by rw [hk1.out, HS.out]; simp⟩
            case measure => simp [intOf]; omega
        · obtain rfl : k = N.length := by omega
          clear hI
          go_wp2_with fail
          refine (new_any _ _ m4 _ an2 ax3 _ _ _ _ rfl rfl).mono ?_
          rintro e w5 ⟨rfl, c0, c1, c2, c3, hb5⟩
          have hN5 := hN4.below hb5
          have hX5 := hX4.below hb5
          have hO5 := hO4.below hb5
          clear hN4 hX4 hO4
          rcases first_hit g N.length with hA | ⟨t, ht, hS, hA⟩
          · have hh := hitTo_no hA
            have HA : Hid (∀ i, i < N.length → strs g i = []) := hA
            clear hA
            go_wp2_with fail
            refine (err_no _ _ an2 N N.length _ m4 (firstK g N.length) _ c0 c1 c2 c3 hN5 hO5.inMap hN1 (fun i hi => by rw [strs_firstK hi]; exact HA.out i hi)).mono ?_
            rintro e w6 ⟨rfl, hw6⟩
            subst hw6
            clear c0 c1 c2 c3 hN5 hX5 hO5
            go_wp2
            go_ret
            exact ⟨rfl, hbb.trans (hb5.mono hbb.size)⟩
          · have hh := hitTo_yes ht hS
            have HA : Hid (∀ i, i < t → strs g i = []) := hA
            have HS : Hid (strs g t ≠ []) := hS
            clear hA hS
            go_wp2_with fail
            refine (err_hit _ _ an2 N N.length ax3 X X.length m4 (firstK g N.length) w3.heap.size _ c0 c1 c2 c3 hN5 hX5 HNX.out hO5 (Nat.le_trans hs34 hb5.size) hN1 t ht (fun i hi => by rw [strs_firstK (by omega)]; exact HA.out i hi) (by rw [strs_firstK ht]; exact HS.out) (by rw [strs_firstK ht]; exact hsh t ht)).mono ?_
            rintro e w6 ⟨⟨v, rfl⟩, hb6⟩
            clear c0 c1 c2 c3 hN5 hX5 hO5
            go_wp2
            go_ret
            exact ⟨rfl, (hbb.trans (hb5.mono hbb.size)).trans (hb6.mono hbs)⟩
    · have hz : ((X.length : Int) != (N.length : Int)) = true := by simp; omega
      clear hNX
      go_wp2
      go_ret
      exact ⟨rfl, Below.refl _ _⟩
end Go.Proofs.Qxb6628937aFmt
