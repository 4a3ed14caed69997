/-
  The walks of the guards: zzBytes_.. and smallEnough.
-/
import Derived.Test.Qxb6628900aGet
namespace Go.Proofs.Qxb6628900a
open Go.RowKit Plain

/-- The call answers a bool; where it is true, R holds. -/
def Says (R : Prop) (e : Ending) : Prop := ∃ r, e = .returned (.bool r) ∧ (r = true → R)
theorem Says.no {R : Prop} : Says R (.returned (.bool false)) := ⟨false, rfl, fun h => by cases h⟩
theorem Says.yes {R : Prop} (h : R) : Says R (.returned (.bool true)) := ⟨true, rfl, fun _ => h⟩

/-- Every string of the fields is at most a megabyte long. -/
def Small (F : List (ByteArray × ByteArray)) : Prop := ∀ f ∈ F, f.1.size ≤ 1048576 ∧ f.2.size ≤ 1048576
/-- .. the first k of them. -/
def SmallTo (F : List (ByteArray × ByteArray)) (k : Nat) : Prop := ∀ i (h : i < F.length), i < k → F[i].1.size ≤ 1048576 ∧ F[i].2.size ≤ 1048576

theorem SmallTo.step {F : List (ByteArray × ByteArray)} {k : Nat} (hk : k < F.length) (h : SmallTo F k) (h1 : F[k].1.size ≤ 1048576) (h2 : F[k].2.size ≤ 1048576) : SmallTo F (k + 1) := by
  intro i hi hik
  by_cases e : i = k
  · subst e; exact ⟨h1, h2⟩
  · exact h i hi (by omega)
theorem SmallTo.all {F : List (ByteArray × ByteArray)} {k : Nat} (h : SmallTo F k) (hk : F.length ≤ k) : Small F := by
  intro f hf
  obtain ⟨i, hi, rfl⟩ := List.getElem_of_mem hf
  exact h i hi (by omega)

set_option maxHeartbeats 400000 in
theorem bytes11 (ao : Option Addr) (F : List (ByteArray × ByteArray)) (cap : Nat) (q : ByteArray) (w : World) (hF : Held w ao F) (hl : F.length ≤ maxLen) (hq : q.size ≤ maxLen) (hn : ∀ f ∈ F, f.1.size ≤ maxLen ∧ f.2.size ≤ maxLen) :
    Calls Try.prog 11 #[.slice ao F.length cap, .string q] w fun e w' => w' = w ∧ Says (F.length ≤ 1048576 ∧ Small F ∧ q.size ≤ 1048576) e := by
  unfold maxLen at hl hq hn
  rcases hF with rfl | ⟨b, off, rfl, hlt, hF⟩
  · clear hn
    go_enter Try.func11, Try.ntmps11
    go_wp2
    refine wp_loop_rounds 1 ?_
    rw [rounds_succ]
    go_wp2
    all_goals go_ret
    all_goals first
      | exact ⟨rfl, Says.no⟩
      | exact ⟨rfl, Says.yes ⟨by simp, (fun f hf => by cases hf), by omega⟩⟩
      | exact ⟨rfl, Says.yes ⟨by simp, (fun f hf => by cases hf), by omega, by omega⟩⟩
  · go_enter Try.func11, Try.ntmps11
    go_wp2
    · go_ret
      exact ⟨rfl, Says.no⟩
    · go_loop [5, 6] (fun n i => ∃ (k : Nat) (m : Int), k ≤ F.length ∧ i = .int .i64 k ∧ n = .int .i64 m ∧ 0 ≤ m ∧ m ≤ 1048576 ∧ SmallTo F k) (fun _ i => F.length - (intOf i).toNat)
      case atStart => exact ⟨0, _, Nat.zero_le _, rfl, rfl, by omega, by omega, fun i _ h => absurd h (Nat.not_lt_zero _)⟩
      case round =>
        obtain ⟨k, m, hk, rfl, rfl, hm0, hm1, hs⟩ := hrel
        by_cases hkl : k < F.length
        · have hc0 := (hF k hkl).1
          have hc1 := (hF k hkl).2
          have hsz := hn F[k] (List.getElem_mem hkl)
          obtain ⟨hz1, hz2⟩ := hsz
          clear hn
          go_wp2
          all_goals first
            | (go_ret
               exact ⟨rfl, Says.no⟩)
            | (go_round
               case rel => exact ⟨k + 1, _, by omega, by go_num, rfl, by omega, by omega, hs.step hkl (by omega) (by omega)⟩
               case measure => simp [intOf]; omega)
        · clear hn
          go_wp2
          all_goals go_ret
          all_goals first
            | exact ⟨rfl, Says.no⟩
            | exact ⟨rfl, Says.yes ⟨by omega, hs.all (by omega), by omega⟩⟩
            | exact ⟨rfl, Says.yes ⟨by omega, hs.all (by omega), by omega, by omega⟩⟩

set_option maxHeartbeats 400000 in
theorem bytes5 (ao : Option Addr) (F : List (ByteArray × ByteArray)) (cap : Nat) (k0 : Int) (v q : ByteArray) (w : World) (hF : Held w ao F) (hl : F.length ≤ maxLen) (hv : v.size ≤ maxLen) (hq : q.size ≤ maxLen) (hn : ∀ f ∈ F, f.1.size ≤ maxLen ∧ f.2.size ≤ maxLen) :
    Calls Try.prog 5 #[.slice ao F.length cap, .int .i64 k0, .string v, .string q] w fun e w' => w' = w ∧ Says (F.length ≤ 1048576 ∧ Small F ∧ v.size ≤ 1048576 ∧ q.size ≤ 1048576) e := by
  unfold maxLen at hl hv hq hn
  rcases hF with rfl | ⟨b, off, rfl, hlt, hF⟩
  · clear hn
    go_enter Try.func5, Try.ntmps5
    go_wp2
    refine wp_loop_rounds 1 ?_
    rw [rounds_succ]
    go_wp2
    all_goals go_ret
    all_goals first
      | exact ⟨rfl, Says.no⟩
      | exact ⟨rfl, Says.yes ⟨by simp, (fun f hf => by cases hf), by omega⟩⟩
      | exact ⟨rfl, Says.yes ⟨by simp, (fun f hf => by cases hf), by omega, by omega⟩⟩
  · go_enter Try.func5, Try.ntmps5
    go_wp2
    · go_ret
      exact ⟨rfl, Says.no⟩
    · go_loop [9, 10] (fun n i => ∃ (k : Nat) (m : Int), k ≤ F.length ∧ i = .int .i64 k ∧ n = .int .i64 m ∧ 0 ≤ m ∧ m ≤ 1048576 ∧ SmallTo F k) (fun _ i => F.length - (intOf i).toNat)
      case atStart => exact ⟨0, _, Nat.zero_le _, rfl, rfl, by omega, by omega, fun i _ h => absurd h (Nat.not_lt_zero _)⟩
      case round =>
        obtain ⟨k, m, hk, rfl, rfl, hm0, hm1, hs⟩ := hrel
        by_cases hkl : k < F.length
        · have hc0 := (hF k hkl).1
          have hc1 := (hF k hkl).2
          have hsz := hn F[k] (List.getElem_mem hkl)
          obtain ⟨hz1, hz2⟩ := hsz
          clear hn
          go_wp2
          all_goals first
            | (go_ret
               exact ⟨rfl, Says.no⟩)
            | (go_round
               case rel => exact ⟨k + 1, _, by omega, by go_num, rfl, by omega, by omega, hs.step hkl (by omega) (by omega)⟩
               case measure => simp [intOf]; omega)
        · clear hn
          go_wp2
          all_goals go_ret
          all_goals first
            | exact ⟨rfl, Says.no⟩
            | exact ⟨rfl, Says.yes ⟨by omega, hs.all (by omega), by omega⟩⟩
            | exact ⟨rfl, Says.yes ⟨by omega, hs.all (by omega), by omega, by omega⟩⟩

set_option maxHeartbeats 400000 in
theorem small_any (ao : Option Addr) (F : List (ByteArray × ByteArray)) (cap : Nat) (n : Int) (w : World) (hF : Held w ao F) (hl : F.length ≤ 1048576) (hn0 : 0 ≤ n) (hs : Small F) :
    Calls Try.prog 6 #[.slice ao F.length cap, .int .i64 n] w fun e w' => w' = w ∧ Says True e := by
  rcases hF with rfl | ⟨b, off, rfl, hlt, hF⟩
  · clear hs
    go_enter Try.func6, Try.ntmps6
    go_wp2
    · go_ret
      first | exact ⟨rfl, Says.no⟩ | exact ⟨rfl, Says.yes trivial⟩
    · refine wp_loop_rounds 1 ?_
      rw [rounds_succ]
      go_wp2
      go_ret
      first | exact ⟨rfl, Says.no⟩ | exact ⟨rfl, Says.yes trivial⟩
  · go_enter Try.func6, Try.ntmps6
    go_wp2
    · go_ret
      first | exact ⟨rfl, Says.no⟩ | exact ⟨rfl, Says.yes trivial⟩
    · go_loop [1, 5] (fun n i => ∃ (k : Nat) (m : Int), k ≤ F.length ∧ i = .int .i64 k ∧ n = .int .i64 m ∧ 0 ≤ m ∧ m ≤ 1048576) (fun _ i => F.length - (intOf i).toNat)
      case atStart => exact ⟨0, _, Nat.zero_le _, rfl, rfl, by omega, by omega⟩
      case round =>
        obtain ⟨k, m, hk, rfl, rfl, hm0, hm1⟩ := hrel
        by_cases hkl : k < F.length
        · have hc0 := (hF k hkl).1
          have hc1 := (hF k hkl).2
          have hsz := hs F[k] (List.getElem_mem hkl)
          obtain ⟨hz1, hz2⟩ := hsz
          clear hs
          go_wp2
          all_goals first
            | (go_ret
               first | exact ⟨rfl, Says.no⟩ | exact ⟨rfl, Says.yes trivial⟩)
            | (go_round
               case rel => exact ⟨k + 1, _, by omega, by go_num, rfl, by omega, by omega⟩
               case measure => simp [intOf]; omega)
        · clear hs
          go_wp2
          go_ret
          first | exact ⟨rfl, Says.no⟩ | exact ⟨rfl, Says.yes trivial⟩
end Go.Proofs.Qxb6628900a
