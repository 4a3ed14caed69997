/-
  The walk of (*Variants).Err.
-/
import Derived.Test.Qxb6628937aFmtSort
import Derived.Test.Qxb6628937aFmtErrorf
import Derived.Deep.RegionWith
namespace Go.Proofs.Qxb6628937aFmt
open Go.RowKit

/-- A row of the call's own, read as a slice. -/
theorem strsAt_row {w : World} {r : Nat} {S : List (List UInt8)} (h : w.rowIs r 9 S.length (cellS S)) : StrsAt w (some ⟨r, 0, none⟩) S :=
  .inr ⟨r, 0, rfl, h.lt, fun i hi => by rw [Nat.zero_add]; exact h.cell hi⟩

theorem Entry.sliceIs {w : World} {base : Nat} {fi : Option Value} {gi : Nat} {o : Option (Option (List (List UInt8)))} (h : Entry w base fi gi o) : fi.isSome = o.isSome ∧ SliceIs w (fi.getD nilS) (o.getD none) := by
  match o, h with
  | none, h =>
    have h : fi = none := h
    subst h
    exact ⟨rfl, none, 0, rfl, by simp, fun _ => rfl, .inl rfl⟩
  | some none, h =>
    have h : fi = some nilS := h
    subst h
    exact ⟨rfl, none, 0, rfl, by simp, fun _ => rfl, .inl rfl⟩
  | some (some S), ⟨h1, _, h3⟩ =>
    subst h1
    exact ⟨rfl, some ⟨gi, 0, none⟩, S.length, rfl, by simp, fun h => (by cases h), strsAt_row h3⟩

theorem OwnMap.inMap {w : World} {base : Nat} {m : Option Nat} {g : Held} (h : OwnMap w base m g) : InMap w m g := by
  rcases h with h | ⟨b, n, f, G, rfl, _, hM, hn, hC⟩
  · exact .inl h
  · exact .inr ⟨b, n, f, rfl, hM, by omega, fun i => (hC.1 i).sliceIs⟩

/-- Where the call's own map holds strings, they lie in a row of its own. -/
theorem OwnMap.at {w : World} {base : Nat} {m : Option Nat} {g : Held} (h : OwnMap w base m g) {k : Nat} (hk : k ≤ 1048576) {S : List (List UInt8)} (hS : g k = some (some S)) :
    ∃ r, (Instr.lookup 24 (.map m) (.int .i64 k) false).run Tryf.prog w = .ok (.slice (some ⟨r, 0, none⟩) S.length S.length) w ∧ base ≤ r ∧ w.rowIs r 9 S.length (cellS S) := by
  rcases h with ⟨_, h⟩ | ⟨b, n, f, G, rfl, _, hM, hn, hC⟩
  · rw [h k] at hS; cases hS
  · have := hC.1 k
    rw [hS] at this
    obtain ⟨h1, h2, h3⟩ := this
    refine ⟨G k, ?_, h2, h3⟩
    rw [hM.look (by omega) (by omega), h1]
    rfl

set_option maxHeartbeats 400000 in
theorem err_no (p q : Nat) (an : Option Addr) (N : List (List UInt8)) (cn : Nat) (vx : Value) (m : Option Nat) (g : Held) (w : World)
    (c0 : w.cell? ⟨p, 0, none⟩ = some (.pointer (some ⟨q, 0, none⟩))) (_c1 : w.cell? ⟨p, 1, none⟩ = some vx) (c2 : w.cell? ⟨p, 2, none⟩ = some (.map m)) (c3 : w.cell? ⟨q, 0, none⟩ = some (.slice an N.length cn))
    (hN : StrsAt w an N) (hM : InMap w m g) (hl : N.length ≤ 65536) (hA : ∀ i, i < N.length → strs g i = []) :
    Calls Tryf.prog 10 #[.pointer (some ⟨p, 0, none⟩)] w fun e w' => e = .returned .nilIface ∧ w' = w := by
  clear _c1
  go_enter Tryf.func10, Tryf.ntmps10
  go_wp2
  go_loop [14] (fun i => ∃ k : Nat, k ≤ N.length ∧ i = .int .i64 k) (fun i => N.length - (intOf i).toNat)
  case atStart => exact ⟨0, Nat.zero_le _, rfl⟩
  case round =>
    obtain ⟨k, hk, rfl⟩ := hrel
    by_cases hkl : k < N.length
    · rcases hN with rfl | ⟨b, off, rfl, hlt, hN⟩
      · exact absurd hkl (Nat.not_lt_zero _)
      have hc0 : w.cell? ⟨b, off + k, none⟩ = some (sv N[k]) := (hN k hkl).trans (by rw [cellS_at hkl])
      obtain ⟨ao, cap, hlk, _, _, _⟩ := hM.look (k := k) (by omega)
      rw [hA k hkl] at hlk
      clear hN hM hA
      go_wp2
      go_round
      case rel => exact ⟨k + 1, by omega, by go_num⟩
      case measure => simp [intOf]; omega
    · clear hN hM hA
      go_wp2
      go_ret
      exact ⟨rfl, rfl⟩

set_option maxHeartbeats 1000000 in
theorem err_one (p q : Nat) (an : Option Addr) (N : List (List UInt8)) (cn : Nat) (ax : Option Addr) (X : List Bool) (cx : Nat) (m : Option Nat) (g : Held) (base : Nat) (w : World)
    (c0 : w.cell? ⟨p, 0, none⟩ = some (.pointer (some ⟨q, 0, none⟩))) (c1 : w.cell? ⟨p, 1, none⟩ = some (.slice ax X.length cx)) (c2 : w.cell? ⟨p, 2, none⟩ = some (.map m)) (c3 : w.cell? ⟨q, 0, none⟩ = some (.slice an N.length cn))
    (hN : StrsAt w an N) (hX : BoolsAt w ax X) (hNX : X.length = N.length) (hM : OwnMap w base m g) (hl : N.length ≤ 65536) (t : Nat) (ht : t < N.length) (hA : ∀ i, i < t → strs g i = []) (s : List UInt8) (hS : g t = some (some [s])) (hx : X.getD t false = false) :
    Calls Tryf.prog 10 #[.pointer (some ⟨p, 0, none⟩)] w fun e w' => (∃ v, e = .returned (.iface 51 v)) ∧ Below w.heap.size w w' := by
  rcases hN with rfl | ⟨b, off, rfl, hlt, hN⟩
  · exact absurd ht (Nat.not_lt_zero _)
  rcases hX with rfl | ⟨bx, offx, rfl, hltx, hX⟩
  · simp at hNX; omega
  go_enter Tryf.func10, Tryf.ntmps10
  go_wp2
  go_loop [14] (fun i => ∃ k : Nat, k ≤ t ∧ i = .int .i64 k) (fun i => t - (intOf i).toNat)
  case atStart => exact ⟨0, Nat.zero_le _, rfl⟩
  case round =>
    obtain ⟨k, hk, rfl⟩ := hrel
    have hc0 : w.cell? ⟨b, off + k, none⟩ = some (sv (N.getD k [])) := hN k (by omega)
    generalize N.getD k [] = nk at hc0
    by_cases hkl : k < t
    · obtain ⟨ao, cap, hlk, _, _, _⟩ := hM.inMap.look (k := k) (by omega)
      rw [hA k hkl] at hlk
      clear hN hM hA hX hS
      go_wp2
      go_round
      case rel => exact ⟨k + 1, by omega, by go_num⟩
      case measure => simp [intOf]; omega
    · obtain rfl : k = t := by omega
      obtain ⟨r, hlk, _, hrow⟩ := hM.at (k := k) (by omega) hS
      have hcx : w.cell? ⟨bx, offx + k, none⟩ = some (.bool false) := (hX k (by omega)).trans (by rw [hx])
      have hcr : w.cell? ⟨r, 0, none⟩ = some (sv s) := hrow.cell (i := 0) (by simp)
      have hlr := hrow.lt
      clear hN hM hA hX hS hx hrow
      go_wp2_with fail
      refine (errorf_any fmtOne Tryf.fmt1r _ _ ⟨s.toArray⟩ ⟨nk.toArray⟩ _ (by go_simp) (by go_simp)).mono ?_
      rintro e w1 ⟨⟨v, rfl⟩, hb⟩
      go_wp2
      go_ret
      exact ⟨⟨_, rfl⟩, ((Below.refl _ _).alloc (Nat.le_refl _) _).trans (hb.mono (by simp))⟩

/-- Behind the last call: a block laid, a draw, and what fmt.Errorf makes. -/
theorem below_last {w1 w2 : World} {o : Obj} (hb : Below (w1.alloc o).drew.heap.size (w1.alloc o).drew w2) : Below w1.heap.size w1 w2 :=
  (((Below.refl _ w1).alloc (Nat.le_refl _) o).drew).trans (hb.mono (by simp))
theorem grown_below {w w1 w2 : World} {row : Option Nat} (h : w.grownBy w1 row) (hb : Below w1.heap.size w1 w2) : w.grownBy w2 row :=
  ⟨hb.os.trans h.os, hb.tape.trans h.tape, hb.output.trans h.output, Nat.le_trans h.size hb.size, fun k hk hne => (hb.block k (Nat.lt_of_lt_of_le hk h.size)).trans (h.block k hk hne)⟩
theorem row_below {w1 w2 : World} {r t n : Nat} {f : Nat → Value} (h : w1.rowIs r t n f) (hb : Below w1.heap.size w1 w2) : w2.rowIs r t n f := h.of_block (hb.block r h.lt)
/-- The slice behind an append that grew: its shape and its row. -/
theorem grown_shape {w1 : World} {base n : Nat} {v : Value} {T : List (List UInt8)} (h : w1.ownsRow base 9 1 v n (T.map sv)) (hn : T.length = n) (h0 : 0 < n) :
    ∃ r cap cur, v = .slice (some ⟨r, 0, none⟩) n cap ∧ base ≤ r ∧ w1.heap[r]? = some (.cells cur 9 (0, 0)) ∧ n ≤ cur.size ∧ cur.toList.take T.length = T.map encStr := by
  rcases h.2 with ⟨_, h'⟩ | ⟨r, cap, cur, hv, hb, hh, h1, _, h3, h4⟩
  · omega
  · exact ⟨r, cap, cur, hv, hb, hh, by omega, by rw [hn]; simpa using h4⟩

theorem sort_block_n (n r cap : Nat) (T : List (List UInt8)) (cur : Array Value) (w : World) (hn : T.length = n) (hb : w.heap[r]? = some (.cells cur 9 (0, 0))) (ht : cur.toList.take T.length = T.map encStr) (hl : n ≤ cur.size) (hs : n ≤ 1048576) :
    Calls Tryf.prog 13 #[.slice (some ⟨r, 0, none⟩) n cap] w fun e w' => e = .returned (.tuple #[]) ∧ w.grownBy w' (some r) ∧ ∀ j, j < n → w'.cell? ⟨r, j, none⟩ = some (cellS (srt T) j) := by
  subst hn
  refine (sort_block r cap T cur w hb ht hl hs).mono fun e w' ⟨he, hg, cur', hb', _, ht'⟩ => ⟨he, hg, fun j hj => ?_⟩
  have : cur'[j]? = some (cellS (srt T) j) := take_cell (S := srt T) (by rw [srt_length]; exact ht') (by rw [srt_length]; exact hj)
  simp [World.cell?, hb', this]

/-- Two facts on rows and worlds. -/
theorem below_two {w w1 w2 : World} {r : Nat} (h : w.grownBy w1 none) (h1 : w1.grownBy w2 (some r)) (hr : w.heap.size ≤ r) : Below w.heap.size w w2 :=
  (below_of_grownBy h).grown h1 h.size (fun k hk => by cases hk; exact hr)

set_option maxHeartbeats 1000000 in
theorem err_sort (p q : Nat) (an : Option Addr) (N : List (List UInt8)) (cn : Nat) (ax : Option Addr) (X : List Bool) (cx : Nat) (m : Option Nat) (g : Held) (base : Nat) (w : World)
    (c0 : w.cell? ⟨p, 0, none⟩ = some (.pointer (some ⟨q, 0, none⟩))) (c1 : w.cell? ⟨p, 1, none⟩ = some (.slice ax X.length cx)) (c2 : w.cell? ⟨p, 2, none⟩ = some (.map m)) (c3 : w.cell? ⟨q, 0, none⟩ = some (.slice an N.length cn))
    (hN : StrsAt w an N) (hX : BoolsAt w ax X) (hNX : X.length = N.length) (hM : OwnMap w base m g) (hl : N.length ≤ 65536) (t : Nat) (ht : t < N.length) (hA : ∀ i, i < t → strs g i = []) (S : List (List UInt8)) (hS : g t = some (some S)) (h2 : 2 ≤ S.length) (hs : S.length ≤ 65536) (hx : X.getD t false = false) :
    Calls Tryf.prog 10 #[.pointer (some ⟨p, 0, none⟩)] w fun e w' => (∃ v, e = .returned (.iface 51 v)) ∧ ∃ r, (Instr.lookup 24 (.map m) (.int .i64 t) false).run Tryf.prog w = .ok (.slice (some ⟨r, 0, none⟩) S.length S.length) w ∧ base ≤ r ∧ w.grownBy w' (some r) ∧ w'.rowIs r 9 S.length (cellS (srt S)) := by
  rcases hN with rfl | ⟨b, off, rfl, hlt, hN⟩
  · exact absurd ht (Nat.not_lt_zero _)
  rcases hX with rfl | ⟨bx, offx, rfl, hltx, hX⟩
  · simp at hNX; omega
  go_enter Tryf.func10, Tryf.ntmps10
  go_wp2
  go_loop [14] (fun i => ∃ k : Nat, k ≤ t ∧ i = .int .i64 k) (fun i => t - (intOf i).toNat)
  case atStart => exact ⟨0, Nat.zero_le _, rfl⟩
  case round =>
    obtain ⟨k, hk, rfl⟩ := hrel
    have hc0 : w.cell? ⟨b, off + k, none⟩ = some (sv (N.getD k [])) := hN k (by omega)
    generalize N.getD k [] = nk at hc0
    by_cases hkl : k < t
    · obtain ⟨ao, cap, hlk, _, _, _⟩ := hM.inMap.look (k := k) (by omega)
      rw [hA k hkl] at hlk
      clear hN hM hA hX hS
      go_wp2
      go_round
      case rel => exact ⟨k + 1, by omega, by go_num⟩
      case measure => simp [intOf]; omega
    · obtain rfl : k = t := by omega
      obtain ⟨r, hlk, hbr, hrow⟩ := hM.at (k := k) (by omega) hS
      have hcx : w.cell? ⟨bx, offx + k, none⟩ = some (.bool false) := (hX k (by omega)).trans (by rw [hx])
      have hlr := hrow.lt
      clear hN hM hA hX hS hx
      go_wp2_with fail
      refine (sort_row r _ S _ hrow (by omega)).mono ?_
      rintro e w1 ⟨rfl, hg1, hrow1⟩
      have d0 : w1.cell? ⟨r, 0, none⟩ = some (sv ((srt S).getD 0 [])) := hrow1.cell (i := 0) (by omega)
      have d1 : w1.cell? ⟨r, 0 + 1, none⟩ = some (sv ((srt S).getD 1 [])) := hrow1.cell (i := 1) (by omega)
      generalize (srt S).getD 0 [] = s0 at d0
      generalize (srt S).getD 1 [] = s1 at d1
      have hS1 : (1 : Int) < (S.length : Int) := by omega
      have hS0 : (0 : Int) < (S.length : Int) := by omega
      go_wp2
      go_region_with (go_at_call 12; refine (errorf_any fmtTwo Tryf.fmt2r _ _ ⟨s0.toArray⟩ ⟨s1.toArray⟩ _ (by go_simp) (by go_simp)).mono ?_; rintro e w2 ⟨⟨v, rfl⟩, hb2⟩)
      all_goals
        go_wp2
        go_ret
        exact ⟨⟨_, rfl⟩, r, hlk, hbr, grown_below hg1 (below_last hb2), row_below hrow1 (below_last hb2)⟩

set_option maxHeartbeats 2000000 in
theorem err_exact (p q : Nat) (an : Option Addr) (N : List (List UInt8)) (cn : Nat) (ax : Option Addr) (X : List Bool) (cx : Nat) (m : Option Nat) (g : Held) (base : Nat) (w : World)
    (c0 : w.cell? ⟨p, 0, none⟩ = some (.pointer (some ⟨q, 0, none⟩))) (c1 : w.cell? ⟨p, 1, none⟩ = some (.slice ax X.length cx)) (c2 : w.cell? ⟨p, 2, none⟩ = some (.map m)) (c3 : w.cell? ⟨q, 0, none⟩ = some (.slice an N.length cn))
    (hN : StrsAt w an N) (hX : BoolsAt w ax X) (hNX : X.length = N.length) (hM : OwnMap w base m g) (hl : N.length ≤ 65536) (t : Nat) (ht : t < N.length) (hA : ∀ i, i < t → strs g i = []) (S : List (List UInt8)) (hS : g t = some (some S)) (h1 : 1 ≤ S.length) (hs : S.length ≤ 65536) (hx : X.getD t false = true) :
    Calls Tryf.prog 10 #[.pointer (some ⟨p, 0, none⟩)] w fun e w' => (∃ v, e = .returned (.iface 51 v)) ∧ Below w.heap.size w w' := by
  rcases hN with rfl | ⟨b, off, rfl, hlt, hN⟩
  · exact absurd ht (Nat.not_lt_zero _)
  rcases hX with rfl | ⟨bx, offx, rfl, hltx, hX⟩
  · simp at hNX; omega
  obtain ⟨i0, HI, HZ, HS, HB⟩ : ∃ i0, Hid (Tryf.prog.info? 9 = some i0) ∧ Hid (i0.zero = some (.string ⟨#[]⟩)) ∧ Hid (i0.size = 1) ∧ Hid (i0.bytes = 16) := info_parts Tryf.info9
  go_enter Tryf.func10, Tryf.ntmps10
  go_wp2
  go_loop [14] (fun i => ∃ k : Nat, k ≤ t ∧ i = .int .i64 k) (fun i => t - (intOf i).toNat)
  case atStart => exact ⟨0, Nat.zero_le _, rfl⟩
  case round =>
    obtain ⟨k, hk, rfl⟩ := hrel
    have hc0 : w.cell? ⟨b, off + k, none⟩ = some (sv (N.getD k [])) := hN k (by omega)
    generalize N.getD k [] = nk at hc0
    by_cases hkl : k < t
    · obtain ⟨ao, cap, hlk, _, _, _⟩ := hM.inMap.look (k := k) (by omega)
      rw [hA k hkl] at hlk
      clear hN hM hA hX hS
      go_wp2
      go_round
      case rel => exact ⟨k + 1, by omega, by go_num⟩
      case measure => simp [intOf]; omega
    · obtain rfl : k = t := by omega
      obtain ⟨r, hlk, hbr, hrow⟩ := hM.at (k := k) (by omega) hS
      have hcx : w.cell? ⟨bx, offx + k, none⟩ = some (.bool true) := (hX k (by omega)).trans (by rw [hx])
      have hlr := hrow.lt
      clear hN hM hA hX hS hx
      go_wp2_with (at_builtin; refine wpList_append_grows _ rfl (.tmp 35) (.tmp 37) 22 rfl 9 i0 (.string ⟨#[]⟩) 1 16 Tryf.underlying22 HI.out HZ.out HS.out HB.out rfl (by decide) (some ⟨r, 0, none⟩) S.length S.length (S.map sv) rfl (by simp) (by simp) ?hold ⟨w.heap.size, 0, none⟩ 1 1 [sv nk] rfl rfl ?hnew ?hone (by omega) ?hmax (by omega) ?_)
      case hold =>
        intro j a hj
        obtain ⟨hjl, rfl⟩ := List.getElem?_eq_some_iff.1 hj
        exact (hrow.cell hjl).trans (by rw [cellS_at hjl])
      case hone => rfl
      case hmax => unfold maxLen; omega
      intro v1 w1 hown1 hgrow1
      rw [show List.map sv S ++ [sv nk] = (S ++ [nk]).map sv by simp] at hown1
      obtain ⟨r1, cap1, cur1, rfl, hbr1, hh1, hc1, ht1⟩ := grown_shape hown1 (by simp) (Nat.succ_pos _)
      have hgw : w.grownBy w1 none := ⟨hgrow1.os, hgrow1.tape, hgrow1.output, by have := hgrow1.size; simp at this; omega, fun i hi _ => (hgrow1.block i (by simp; omega) (by simp)).trans (Below.heap_alloc _ _ _ hi)⟩
      have hl1 : r1 < w1.heap.size := (Array.getElem?_eq_some_iff.1 hh1).1
      have HC := sort_block_n (S.length + 1) r1 cap1 (S ++ [nk]) cur1 w1 (by simp) hh1 ht1 hc1 (by omega)
      clear hown1 hgrow1 hh1 ht1 hc1 hlk hrow
      go_wp2_with fail
      refine HC.mono ?_
      rintro e w2 ⟨rfl, hg2, hcell2⟩
      have d0 : w2.cell? ⟨r1, 0, none⟩ = some (sv ((srt (S ++ [nk])).getD 0 [])) := hcell2 0 (by omega)
      have d1 : w2.cell? ⟨r1, 0 + 1, none⟩ = some (sv ((srt (S ++ [nk])).getD 1 [])) := hcell2 1 (by omega)
      generalize (srt (S ++ [nk])).getD 0 [] = s0 at d0
      generalize (srt (S ++ [nk])).getD 1 [] = s1 at d1
      have hbw : Below w.heap.size w w2 := below_two hgw hg2 (by omega)
      have hlr2 : r1 < w2.heap.size := Nat.lt_of_lt_of_le hl1 hg2.size
      have hS1 : (1 : Int) < (S.length : Int) + 1 := by omega
      have hS0 : (0 : Int) < (S.length : Int) + 1 := by omega
      clear hcell2 HC hg2 hgw
      go_wp2
      go_region_with (go_at_call 12; refine (errorf_any fmtTwo Tryf.fmt2r _ _ ⟨s0.toArray⟩ ⟨s1.toArray⟩ _ (by go_simp) (by go_simp)).mono ?_; rintro e w3 ⟨⟨v, rfl⟩, hb3⟩)
      all_goals
        go_wp2
        go_ret
        exact ⟨⟨_, rfl⟩, hbw.trans ((below_last hb3).mono hbw.size)⟩
end Go.Proofs.Qxb6628937aFmt
