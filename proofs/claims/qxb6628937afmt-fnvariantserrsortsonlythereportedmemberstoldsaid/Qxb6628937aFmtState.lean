/-
  What Err leaves behind: the members of the first name that has any are in byte order, if that name was not spelled exactly and has two or more; all else is as it was.
-/
import Derived.Test.Qxb6628937aFmtLawA
import Derived.Test.Qxb6628937aFmtIns
namespace Go.Proofs.Qxb6628937aFmt
open Go.RowKit

/-- g with S at the key t. -/
def setK (g : Held) (t : Nat) (S : List (List UInt8)) : Held := fun i => if i = t then some (some S) else g i

/-- Which name's members are sorted, and what the map then holds. -/
def Target (g : Held) (X : List Bool) (n : Nat) (tg : Int) (g' : Held) : Prop :=
  (tg = -1 ∧ g' = g ∧ ∀ t, t < n → strs g t ≠ [] → (∀ i, i < t → strs g i = []) → X.getD t false = true ∨ (strs g t).length < 2) ∨
  ∃ t : Nat, t < n ∧ tg = t ∧ strs g t ≠ [] ∧ (∀ i, i < t → strs g i = []) ∧ X.getD t false = false ∧ 2 ≤ (strs g t).length ∧ g' = setK g t (srt (strs g t))

theorem hit_one {g : Held} {t t' : Nat} (h : strs g t ≠ []) (hb : ∀ i, i < t → strs g i = []) (h' : strs g t' ≠ []) (hb' : ∀ i, i < t' → strs g i = []) : t = t' := by
  rcases Nat.lt_trichotomy t t' with l | e | l
  · exact absurd (hb' t l) h
  · exact e
  · exact absurd (hb t' l) h'

theorem target_is (g : Held) (X : List Bool) (n : Nat) : ∃ tg g', Target g X n tg g' := by
  rcases first_hit g n with h | ⟨t, ht, hs, hb⟩
  · exact ⟨-1, g, .inl ⟨rfl, rfl, fun t ht hs _ => absurd (h t ht) hs⟩⟩
  · by_cases hx : X.getD t false = false ∧ 2 ≤ (strs g t).length
    · exact ⟨t, _, .inr ⟨t, ht, rfl, hs, hb, hx.1, hx.2, rfl⟩⟩
    · refine ⟨-1, g, .inl ⟨rfl, rfl, fun t' ht' hs' hb' => ?_⟩⟩
      obtain rfl := hit_one hs hb hs' hb'
      cases hxt : X.getD t false with
      | true => exact .inl rfl
      | false => exact .inr (by rw [hxt] at hx; simp at hx; omega)

/-- At the first name that has members: what the target is. -/
theorem Target.yes {g : Held} {X : List Bool} {n : Nat} {tg : Int} {g' : Held} (h : Target g X n tg g') {t : Nat} (ht : t < n) (hs : strs g t ≠ []) (hb : ∀ i, i < t → strs g i = []) (hx : X.getD t false = false) (h2 : 2 ≤ (strs g t).length) : tg = t := by
  rcases h with ⟨_, _, h⟩ | ⟨t', _, e, hs', hb', _⟩
  · rcases h t ht hs hb with h | h
    · rw [hx] at h; cases h
    · omega
  · rw [e, hit_one hs hb hs' hb']
theorem Target.no {g : Held} {X : List Bool} {n : Nat} {tg : Int} {g' : Held} (h : Target g X n tg g') {t : Nat} (hs : strs g t ≠ []) (hb : ∀ i, i < t → strs g i = []) (hx : X.getD t false = true ∨ (strs g t).length < 2) : tg = -1 := by
  rcases h with ⟨e, _⟩ | ⟨t', _, _, hs', hb', hx', h2', _⟩
  · exact e
  · obtain rfl := hit_one hs hb hs' hb'
    rcases hx with h | h
    · rw [hx'] at h; cases h
    · omega
theorem Target.none {g : Held} {X : List Bool} {n : Nat} {tg : Int} {g' : Held} (h : Target g X n tg g') (hb : ∀ i, i < n → strs g i = []) : tg = -1 := by
  rcases h with ⟨e, _⟩ | ⟨t, ht, _, hs, _⟩
  · exact e
  · exact absurd (hb t ht) hs

/-- Elsewhere nothing has turned. -/
theorem Target.other {g : Held} {X : List Bool} {n : Nat} {tg : Int} {g' : Held} (h : Target g X n tg g') {i : Nat} (hi : (i : Int) ≠ tg) : g' i = g i := by
  rcases h with ⟨_, rfl, _⟩ | ⟨t, _, e, _, _, _, _, rfl⟩
  · rfl
  · exact if_neg (by omega)
/-- At the target the members are in byte order. -/
theorem Target.here {g : Held} {X : List Bool} {n : Nat} {tg : Int} {g' : Held} (h : Target g X n tg g') {i : Nat} (hi : (i : Int) = tg) : g i = some (some (strs g i)) ∧ 2 ≤ (strs g i).length ∧ g' i = some (some (srt (strs g i))) := by
  rcases h with ⟨e, _⟩ | ⟨t, _, e, hs, _, _, h2, rfl⟩
  · omega
  · obtain rfl : i = t := by omega
    exact ⟨strs_some hs, h2, if_pos rfl⟩

theorem OwnMap.sorted {w w' : World} {base : Nat} {m : Option Nat} {g : Held} (h : OwnMap w base m g) {t : Nat} (ht : t ≤ 1048576) {S : List (List UInt8)} (hS : g t = some (some S)) {r : Nat}
    (hlk : (Instr.lookup 24 (.map m) (.int .i64 t) false).run Tryf.prog w = .ok (.slice (some ⟨r, 0, none⟩) S.length S.length) w) (hg : w.grownBy w' (some r)) (hr : w'.rowIs r 9 S.length (cellS (srt S))) : OwnMap w' base m (setK g t (srt S)) := by
  rcases h with ⟨_, h⟩ | ⟨b, n, f, G, rfl, hbb, hM, hn, hC⟩
  · rw [h t] at hS; cases hS
  · have ht' := hC.1 t
    rw [hS] at ht'
    obtain ⟨h1, h2, h3⟩ := ht'
    rw [hM.look (by omega) (by omega), h1] at hlk
    have er : G t = r := by simpa using hlk
    subst er
    have e1 : setK g t (srt S) t = some (some (srt S)) := if_pos rfl
    have e2 : ∀ i, i ≠ t → setK g t (srt S) i = g i := fun i hi => if_neg hi
    refine .inr ⟨b, n, f, G, rfl, hbb, hM.kept hg (fun e => hM.isRow h3 (Option.some.inj e).symm), hn, fun i => ?_, fun i j A B hi hj hij => ?_⟩
    · by_cases e : i = t
      · subst e
        rw [e1]
        refine ⟨?_, h2, ?_⟩
        · rw [srt_length]; exact h1
        · rw [srt_length]; exact hr
      · rw [e2 i e]
        exact (hC.1 i).kept hg (fun A hA => by have := hC.2 i t A S hA hS e; simpa using this)
    · have some_at : ∀ i A, setK g t (srt S) i = some (some A) → ∃ A', g i = some (some A') := fun i A h => by
        by_cases e : i = t
        · subst e; exact ⟨S, hS⟩
        · rw [e2 i e] at h; exact ⟨A, h⟩
      obtain ⟨A', hA⟩ := some_at i A hi
      obtain ⟨B', hB⟩ := some_at j B hj
      exact hC.2 i j A' B' hA hB hij

theorem err_state (p q : Nat) (an : Option Addr) (N : List (List UInt8)) (cn : Nat) (ax : Option Addr) (X : List Bool) (cx : Nat) (m : Option Nat) (g : Held) (base : Nat) (w : World) (tg : Int) (g' : Held)
    (c0 : w.cell? ⟨p, 0, none⟩ = some (.pointer (some ⟨q, 0, none⟩))) (c1 : w.cell? ⟨p, 1, none⟩ = some (.slice ax X.length cx)) (c2 : w.cell? ⟨p, 2, none⟩ = some (.map m)) (c3 : w.cell? ⟨q, 0, none⟩ = some (.slice an N.length cn))
    (hN : StrsAt w an N) (hX : BoolsAt w ax X) (hNX : X.length = N.length) (hM : OwnMap w base m g) (hbase : base ≤ w.heap.size) (hl : N.length ≤ 65536) (hs : ∀ i, i < N.length → (strs g i).length ≤ 65536) (hT : Target g X N.length tg g') :
    Calls Tryf.prog 10 #[.pointer (some ⟨p, 0, none⟩)] w fun e w' => (∃ v, e = .returned v) ∧ Below base w w' ∧ OwnMap w' base m g' := by
  rcases first_hit g N.length with hA | ⟨t, ht, hS, hA⟩
  · have eg : g' = g := by
      rcases hT with ⟨_, e, _⟩ | ⟨t, ht, _, h, _⟩
      · exact e
      · exact absurd (hA t ht) h
    subst eg
    refine (err_no p q an N cn _ m _ w c0 c1 c2 c3 hN hM.inMap hl hA).mono fun e w' ⟨he, hw⟩ => ?_
    subst hw
    exact ⟨⟨_, he⟩, Below.refl _ _, hM⟩
  · have hg := strs_some hS
    have hst := hs t ht
    have h1 : 1 ≤ (strs g t).length := by
      cases hx : strs g t with
      | nil => exact absurd hx hS
      | cons a l => simp
    cases hx : X.getD t false with
    | true =>
      have eg : g' = g := by
        rcases hT with ⟨_, e, _⟩ | ⟨t', _, _, hs', hb', hx', _⟩
        · exact e
        · obtain rfl := hit_one hS hA hs' hb'
          rw [hx] at hx'; cases hx'
      subst eg
      exact (err_exact p q an N cn ax X cx m _ base w c0 c1 c2 c3 hN hX hNX hM hl t ht hA _ hg h1 hst hx).mono fun e w' ⟨⟨v, he⟩, hb⟩ => ⟨⟨_, he⟩, hb.mono hbase, hM.below hb⟩
    | false =>
      by_cases h2 : 2 ≤ (strs g t).length
      · have eg : g' = setK g t (srt (strs g t)) := by
          rcases hT with ⟨_, _, h⟩ | ⟨t', _, _, hs', hb', _, _, e⟩
          · rcases h t ht hS hA with h | h
            · rw [hx] at h; cases h
            · omega
          · obtain rfl := hit_one hS hA hs' hb'
            exact e
        subst eg
        exact (err_sort p q an N cn ax X cx m g base w c0 c1 c2 c3 hN hX hNX hM hl t ht hA _ hg h2 hst hx).mono fun e w' ⟨⟨v, he⟩, r, hlk, hbr, hgr, hrow⟩ =>
          ⟨⟨_, he⟩, (Below.refl base w).grown hgr hbase (fun k hk => by cases hk; exact hbr), hM.sorted (by omega) hg hlk hgr hrow⟩
      · have eg : g' = g := by
          rcases hT with ⟨_, e, _⟩ | ⟨t', _, _, hs', hb', _, h2', _⟩
          · exact e
          · obtain rfl := hit_one hS hA hs' hb'
            exact absurd h2' h2
        subst eg
        obtain ⟨s, hs1⟩ : ∃ s, strs g' t = [s] := by
          match hx : strs g' t, h1, h2 with
          | [s], _, _ => exact ⟨s, rfl⟩
          | [], h, _ => simp at h
          | _ :: _ :: _, _, h => simp at h
        rw [hs1] at hg
        exact (err_one p q an N cn ax X cx m _ base w c0 c1 c2 c3 hN hX hNX hM hl t ht hA s hg hx).mono fun e w' ⟨⟨v, he⟩, hb⟩ => ⟨⟨_, he⟩, hb.mono hbase, hM.below hb⟩
end Go.Proofs.Qxb6628937aFmt
