/-
  The walk of FnParseUintMatchesDecimalModel.
-/
import Derived.Test.Qxb6629990aCopy
namespace Go.Proofs.Qxb6629990a
open Go.RowKit Plain

set_option maxRecDepth 20000 in
set_option maxHeartbeats 1000000 in
theorem lawA_nil (n : Int) (w : World) :
    Calls Try.prog 3 #[.slice none 0 0, .int .i64 n] w fun e w' => e = .returned (.bool true) ∧ Below w.heap.size w w' := by
  have hnil := fun wx => run_neq_slice_nil_any (P := Try.prog) wx 22 5 none 0 0 0 0 Try.underlying22
  go_enter Try.func3, Try.ntmps3
  go_wp2_with fail
  refine (guard5 none 0 0 n (Nat.zero_le _) w).mono ?_
  rintro e w1 ⟨rfl, r, rfl⟩
  cases r with
  | false =>
    go_wp2
    go_ret
    exact ⟨rfl, Below.refl _ _⟩
  | true =>
    by_cases h4 : n < 4
    · go_wp2
      go_ret
      exact ⟨rfl, Below.refl _ _⟩
    · obtain ⟨bits, rfl⟩ : ∃ bits : Nat, n = bits := ⟨n.toNat, by omega⟩
      have HB4 : Hid (4 ≤ bits) := show 4 ≤ bits by omega
      go_wp2_with fail
      refine (parse_nil bits _).mono ?_
      rintro e w2 ⟨rfl, v, ok, rfl, HR⟩
      go_wp2_with fail
      refine (dec_nil bits _).mono ?_
      rintro e w3 ⟨⟨k, rfl⟩, v', ok', rfl, HR'⟩
      obtain ⟨rfl, rfl⟩ := HR.one HR'
      cases ok
      all_goals
        go_wp2
        go_ret
        exact ⟨rfl, below_drewN (Below.refl _ _) _⟩

set_option maxRecDepth 20000 in
set_option maxHeartbeats 1000000 in
theorem lawA_some (x : Addr) (l : List Nat) (cap : Nat) (n : Int) (w : World) (hlc : l.length ≤ cap) (hcm : cap ≤ maxLen) (hs : Holds w x l) (hby : Bytes l) :
    Calls Try.prog 3 #[.slice (some x) l.length cap, .int .i64 n] w fun e w' => e = .returned (.bool true) ∧ Below w.heap.size w w' := by
  have hlm : l.length ≤ maxLen := Nat.le_trans hlc hcm
  have hnil := fun wx => run_neq_slice_nil_any (P := Try.prog) wx 22 5 (some x) l.length cap 0 0 Try.underlying22
  have HS : Hid (Holds w x l) := hs
  have HY : Hid (Bytes l) := hby
  clear hs hby
  go_enter Try.func3, Try.ntmps3
  go_wp2_with fail
  refine (guard5 (some x) l.length cap n hlm w).mono ?_
  rintro e w1 ⟨rfl, r, rfl⟩
  unfold maxLen at hlm hcm
  cases r with
  | false =>
    go_wp2
    go_ret
    exact ⟨rfl, Below.refl _ _⟩
  | true =>
    by_cases hl : l.length ≤ 1048576
    · by_cases h4 : n < 4
      · go_wp2
        go_ret
        exact ⟨rfl, Below.refl _ _⟩
      · obtain ⟨bits, rfl⟩ : ∃ bits : Nat, n = bits := ⟨n.toNat, by omega⟩
        have HB4 : Hid (4 ≤ bits) := show 4 ≤ bits by omega
        have hmk := run_make_row' (P := Try.prog) 22 5 (.int .u8 0) 1 Try.underlying22 Try.info5 rfl .i64 .i64 l.length (by omega) (by omega)
        obtain ⟨W2, hcp, hrow, hb, -⟩ := clone_run x l cap w1 HS.out
        have HC : Hid (Cells W2 w1.heap.size 0 l) := row_cells hrow
        clear hrow
        go_wp2_with fail
        clear hmk hcp
        refine (parse_any w1.heap.size 0 l.length l bits _ hl HB4.out HC.out HY.out).mono ?_
        rintro e w2 ⟨rfl, v, ok, rfl, HR⟩
        go_wp2_with fail
        refine (dec_any w1.heap.size 0 l.length l bits _ (Nat.le_refl _) hl HB4.out HC.out HY.out).mono ?_
        rintro e w3 ⟨⟨k, rfl⟩, v', ok', rfl, HR'⟩
        obtain ⟨rfl, rfl⟩ := HR.one HR'
        cases ok
        all_goals
          go_wp2
          go_ret
          exact ⟨rfl, below_drewN hb _⟩
    · go_wp2
      go_ret
      exact ⟨rfl, Below.refl _ _⟩

/-- WHAT THE WALK IS TOLD OF A SLICE OF BYTES THAT CAME IN. -/
def IsRow (k : IntKind) (w : World) (a : Option Addr) (len cap : Nat) (zs : List Int) : Prop :=
  (a = none ∧ len = 0 ∧ cap = 0 ∧ zs = []) ∨
  ∃ x, a = some x ∧ len ≤ cap ∧ cap ≤ maxLen ∧ zs.length = cap ∧ (∀ i, i < zs.length → w.cell? (x.add i) = some (.int k (zs.getD i 0))) ∧ ∀ n ∈ zs, (Lit.int k n).wf = true

theorem wf_byte {z : Int} (h : (Lit.int .u8 z).wf = true) : 0 ≤ z ∧ z ≤ 255 := by
  have h1 : IntKind.u8.min = 0 := by decide
  have h2 : IntKind.u8.max = 255 := by decide
  simp [Lit.wf] at h
  omega

/-- The slice is nil, or it holds bytes. -/
theorem IsRow.bytes {w : World} {a : Option Addr} {len cap : Nat} {zs : List Int} (h : IsRow .u8 w a len cap zs) :
    (a = none ∧ len = 0 ∧ cap = 0) ∨ ∃ x l, a = some x ∧ len = l.length ∧ l.length ≤ cap ∧ cap ≤ maxLen ∧ Holds w x l ∧ Bytes l := by
  rcases h with ⟨rfl, rfl, rfl, -⟩ | ⟨x, rfl, h1, h2, h3, h4, h5⟩
  · exact .inl ⟨rfl, rfl, rfl⟩
  · have hlen : ((zs.take len).map Int.toNat).length = len := by simp; omega
    refine .inr ⟨x, (zs.take len).map Int.toNat, rfl, hlen.symm, by omega, h2, fun i hi => ?_, fun c hc => ?_⟩
    · rw [hlen] at hi
      have hz : i < zs.length := by omega
      rw [h4 i hz]
      have hw := wf_byte (h5 _ (List.getElem_mem hz))
      have e1 : zs.getD i 0 = zs[i] := by simp [hz]
      have e2 : ((zs.take len).map Int.toNat)[i]'(by omega) = zs[i].toNat := by simp
      rw [e1, e2]
      congr 2
      omega
    · obtain ⟨z, hz, rfl⟩ := List.mem_map.1 hc
      have hw := wf_byte (h5 _ (List.mem_of_mem_take hz))
      omega

theorem lawA_any (a : Option Addr) (len cap : Nat) (zs : List Int) (n : Int) (w : World) (h : IsRow .u8 w a len cap zs) :
    Calls Try.prog 3 #[.slice a len cap, .int .i64 n] w fun e w' => e = .returned (.bool true) ∧ Below w.heap.size w w' := by
  rcases h.bytes with ⟨rfl, rfl, rfl⟩ | ⟨x, l, rfl, rfl, h1, h2, h3, h4⟩
  · exact lawA_nil n w
  · exact lawA_some x l cap n w h1 h2 h3 h4
end Go.Proofs.Qxb6629990a
