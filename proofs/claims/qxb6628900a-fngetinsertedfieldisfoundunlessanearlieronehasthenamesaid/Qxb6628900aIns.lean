/-
  The header with a field put in at k: the plain side; and append of one field where there is room.
-/
import Derived.Test.Qxb6628900aHeader
import Derived.Deep.RegionLaw
namespace Go.Proofs.Qxb6628900a
open Go.RowKit Plain

/-- The fields with f put in at k. -/
def ins (F : List (ByteArray × ByteArray)) (f : ByteArray × ByteArray) (k : Nat) : List (ByteArray × ByteArray) := F.take k ++ f :: F.drop k

theorem ins_length {F : List (ByteArray × ByteArray)} {f : ByteArray × ByteArray} {k : Nat} (hk : k ≤ F.length) : (ins F f k).length = F.length + 1 := by
  simp [ins]; omega
theorem ins_before {F : List (ByteArray × ByteArray)} {f : ByteArray × ByteArray} {k i : Nat} (hi : i < k) (hk : k ≤ F.length) : (ins F f k)[i]'(by rw [ins_length hk]; omega) = F[i] := by
  unfold ins
  rw [List.getElem_append_left (by simp; omega)]
  simp
theorem ins_here {F : List (ByteArray × ByteArray)} {f : ByteArray × ByteArray} {k : Nat} (hk : k ≤ F.length) : (ins F f k)[k]'(by rw [ins_length hk]; omega) = f := by
  unfold ins
  rw [List.getElem_append_right (by simp; omega)]
  have e : k - (F.take k).length = 0 := by simp; omega
  simp only [e, List.getElem_cons_zero]
theorem ins_after {F : List (ByteArray × ByteArray)} {f : ByteArray × ByteArray} {k i : Nat} (hi : k ≤ i) (hl : i < F.length) : (ins F f k)[i + 1]'(by rw [ins_length (by omega)]; omega) = F[i] := by
  unfold ins
  rw [List.getElem_append_right (by simp; omega)]
  have e : i + 1 - (F.take k).length = (i - k) + 1 := by simp; omega
  simp only [e, List.getElem_cons_succ, List.getElem_drop]
  congr 1
  omega

theorem getF_append_none : ∀ (A B : List (ByteArray × ByteArray)) (q : ByteArray), (∀ f ∈ A, same f.1 q = false) → getF (A ++ B) q = getF B q
  | [], _, _, _ => rfl
  | a :: A, B, q, h => by
    rw [List.cons_append, getF_cons, h a (by simp), if_neg (by simp)]
    exact getF_append_none A B q fun f hf => h f (by simp [hf])

theorem same_self (q : ByteArray) : same (swpS q) q = true := by
  rw [same_swp_left]
  exact decide_eq_true rfl

/-- No field ahead of k has the name: the new one is read. -/
theorem getF_ins_new {F : List (ByteArray × ByteArray)} {q v : ByteArray} {k : Nat} (h : ∀ i (h : i < F.length), i < k → same F[i].1 q = false) : getF (ins F (swpS q, v) k) q = v := by
  unfold ins
  rw [getF_append_none, getF_cons, same_self, if_pos rfl]
  intro f hf
  obtain ⟨i, hi, rfl⟩ := List.getElem_of_mem hf
  rw [List.getElem_take]
  exact h i (by simp at hi; omega) (by simp at hi; omega)

/-- Field j, ahead of k, is the first of the name: it is read still. -/
theorem getF_ins_old {F : List (ByteArray × ByteArray)} {q v : ByteArray} {k j : Nat} (hk : k ≤ F.length) (hj : j < k) (h1 : same F[j].1 q = true) (h2 : ∀ i (h : i < F.length), i < j → same F[i].1 q = false) : getF (ins F (swpS q, v) k) q = F[j].2 := by
  have hl := ins_length (f := (swpS q, v)) hk
  have := getF_first (ins F (swpS q, v) k) q j (by omega) (by rw [ins_before hj hk]; exact h1) (fun i hi hij => by rw [ins_before (by omega) hk]; exact h2 i (by omega) hij)
  rw [this, ins_before hj hk]

theorem ins_small {F : List (ByteArray × ByteArray)} {q v : ByteArray} {k : Nat} (h : Small F) (hq : q.size ≤ 1048576) : ∀ f ∈ ins F (swpS q, v) k, f.1.size ≤ 1048576 := by
  intro f hf
  unfold ins at hf
  rcases List.mem_append.1 hf with hf | hf
  · exact (h f (List.mem_of_mem_take hf)).1
  · rcases List.mem_cons.1 hf with rfl | hf
    · show (mapS swp q).size ≤ _
      rw [size_mapS]; exact hq
    · exact (h f (List.mem_of_mem_drop hf)).1

/-- What append reads: the field that was just laid. -/
theorem app_news (w : World) (x y : Value) : ∀ j u, [x, y][j]? = some u → (w.alloc (.cells #[x, y] 30)).cell? ((⟨w.heap.size, 0, none⟩ : Addr).add j) = some u := by
  intro j u h
  rw [Addr.add_lit, Nat.zero_add, World.cell?_alloc_new]
  simpa using h
/-- Where append writes: two cells of the call's own row. -/
theorem app_spare {w : World} {g n k : Nat} {f : Nat → Value} (h : w.rowIs g 30 (n * 2) f) (hk : k < n) (o : Obj) : ∀ j, j < 2 → ((w.alloc o).cell? ⟨g, 0 + k * 2 + j, none⟩).isSome = true ∧ (w.alloc o).frozen? ⟨g, 0 + k * 2 + j, none⟩ = false := by
  intro j hj
  have := (h.alloc o).cell (i := 0 + k * 2 + j) (by omega)
  rw [this]
  exact ⟨rfl, (h.alloc o).frozen _⟩
theorem two_ones (x y : ByteArray) : ∀ u ∈ [Value.string x, Value.string y], u.oneCell' = true := by
  intro u hu
  simp at hu
  rcases hu with rfl | rfl <;> rfl

/-- append of one field where there is room, as a law of the walk. -/
theorem wpList_append_room {P : Program} (w : World) {ops : Array Oper} {rest : List Oper} {o : Oper} {a : Act} {Q : Exit → Act → World → Prop}
    (hg : o.guard = none) (s x : Operand) (t : TypeId) (hop : o.op = Op.call { callee := Callee.builtin Builtin.append, args := #[s, x], argTypes := #[t, t] })
    (e : TypeId) (i : TypeInfo) (size : Nat) (h1 : P.underlying t = some (.slice e)) (h2 : P.info? e = some i) (h4 : i.size = size)
    (b off n cap : Nat) (hs : a.eval s = .slice (some ⟨b, off, none⟩) n cap)
    (ad : Addr) (m c : Nat) (news : List Value) (hx : a.eval x = .slice (some ad) m c) (hn : news.length = m * size) (hc : ∀ j u, news[j]? = some u → w.cell? (ad.add j) = some u) (h1c : ∀ u ∈ news, u.oneCell' = true)
    (hroom : n + m ≤ cap) (hspare : ∀ j, j < news.length → (w.cell? ⟨b, off + n * size + j, none⟩).isSome = true ∧ w.frozen? ⟨b, off + n * size + j, none⟩ = false)
    (hK : wpList P ops Q rest (a.put o.dst (.slice (some ⟨b, off, none⟩) (n + m) cap)) (w.setCells b (off + n * size) news)) :
    wpList P ops Q (o :: rest) a w := by
  refine wpList_plain hg fun K hK' => ?_
  subst h4
  have hrun := run_append_room_cells (P := P) w t o.type e i h1 h2 b off n cap ad m c news hn hc h1c hroom (fun j hj => (hspare j hj).1) (fun j hj => (hspare j hj).2)
  unfold Oper.wp
  simp [execOp, hop, resolve, invoke, builtin, hs, hx, hrun, Result.andThen]
  exact hK' _ _ hK
end Go.Proofs.Qxb6628900a
