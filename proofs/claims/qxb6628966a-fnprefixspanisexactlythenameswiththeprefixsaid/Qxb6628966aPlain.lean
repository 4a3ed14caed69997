/-
  The plain side of the two laws on spans of names: byte order, a text's head, the span's end. No Go in sight.
-/
namespace Go.Proofs.Qxb6628966a.Plain

/-- Byte order: -1, 0 or 1. -/
def cmp : List UInt8 → List UInt8 → Int
  | [], [] => 0
  | [], _ :: _ => -1
  | _ :: _, [] => 1
  | a :: x, b :: y => if a.toNat < b.toNat then -1 else if b.toNat < a.toNat then 1 else cmp x y

/-- Does s start with p? -/
def hasPre : List UInt8 → List UInt8 → Bool
  | _, [] => true
  | [], _ :: _ => false
  | a :: s, b :: p => if a.toNat = b.toNat then hasPre s p else false

/-- The span's end: the last byte below 255 raised by one, what follows it dropped; nothing where there is none. -/
def endOf : List UInt8 → List UInt8
  | [] => []
  | a :: p => match endOf p with
    | [] => if a.toNat < 255 then [a + 1] else []
    | t :: r => a :: t :: r

def inSpan (f t s : List UInt8) : Bool := if 0 < cmp f s then false else if t = [] then true else decide (cmp s t < 0)
def boundLE (x y : List UInt8) : Bool := if y = [] then true else if x = [] then false else decide (cmp x y ≤ 0)

theorem cmp_lt {a b : UInt8} {x y : List UInt8} (h : a.toNat < b.toNat) : cmp (a :: x) (b :: y) = -1 := by rw [cmp, if_pos h]
theorem cmp_gt {a b : UInt8} {x y : List UInt8} (h : b.toNat < a.toNat) : cmp (a :: x) (b :: y) = 1 := by rw [cmp, if_neg (by omega), if_pos h]
theorem cmp_eq {a b : UInt8} {x y : List UInt8} (h : a.toNat = b.toNat) : cmp (a :: x) (b :: y) = cmp x y := by rw [cmp, if_neg (by omega), if_neg (by omega)]
theorem cmp_nil_left (y : List UInt8) : cmp [] y ≤ 0 := by cases y <;> simp [cmp]
theorem cmp_nil_right (x : List UInt8) : 0 ≤ cmp x [] := by cases x <;> simp [cmp]
theorem cmp_self : ∀ x : List UInt8, cmp x x = 0
  | [] => rfl
  | a :: x => by rw [cmp_eq rfl, cmp_self x]

theorem pre_eq {a b : UInt8} {s p : List UInt8} (h : a.toNat = b.toNat) : hasPre (a :: s) (b :: p) = hasPre s p := by rw [hasPre, if_pos h]
theorem pre_ne {a b : UInt8} {s p : List UInt8} (h : ¬ a.toNat = b.toNat) : hasPre (a :: s) (b :: p) = false := by rw [hasPre, if_neg h]

theorem pre_nil (s : List UInt8) : hasPre s [] = true := by cases s <;> rfl
theorem pre_short : ∀ {s p : List UInt8}, s.length < p.length → hasPre s p = false
  | [], _ :: _, _ => rfl
  | a :: s, b :: p, h => by
    by_cases e : a.toNat = b.toNat
    · rw [pre_eq e]
      exact pre_short (by simpa using h)
    · exact pre_ne e

theorem succ_toNat {a : UInt8} (h : a.toNat < 255) : (a + 1).toNat = a.toNat + 1 := by
  rw [UInt8.toNat_add]; have : (1 : UInt8).toNat = 1 := rfl; omega

theorem end_low {a : UInt8} {p : List UInt8} (h : endOf p = []) (ha : a.toNat < 255) : endOf (a :: p) = [a + 1] := by rw [endOf, h]; exact if_pos ha
theorem end_none {a : UInt8} {p : List UInt8} (h : endOf p = []) (ha : ¬ a.toNat < 255) : endOf (a :: p) = [] := by rw [endOf, h]; exact if_neg ha
theorem end_deep {a : UInt8} {p : List UInt8} (h : endOf p ≠ []) : endOf (a :: p) = a :: endOf p := by
  rw [endOf]
  split
  · rename_i e; exact absurd e h
  · rename_i e; rw [e]

theorem endOf_length : ∀ p : List UInt8, (endOf p).length ≤ p.length
  | [] => Nat.le_refl _
  | a :: p => by
    have ih := endOf_length p
    by_cases h : endOf p = []
    · by_cases ha : a.toNat < 255
      · rw [end_low h ha]; simp
      · rw [end_none h ha]; simp
    · rw [end_deep h]; simpa using ih

/-- LAW 1: a name lies in the span just where it starts with the text. -/
theorem inSpan_is : ∀ (p n : List UInt8), inSpan p (endOf p) n = hasPre n p
  | [], n => by
    have := cmp_nil_left n
    unfold inSpan
    rw [if_neg (by omega), if_pos (show endOf [] = [] from rfl)]
    cases n <;> rfl
  | a :: p, [] => by unfold inSpan; rw [cmp, if_pos (by decide)]; rfl
  | a :: p, b :: n => by
    have ih := inSpan_is p n
    have ha := a.toNat_lt
    have hb := b.toNat_lt
    rcases Nat.lt_trichotomy a.toNat b.toNat with h | h | h
    · rw [pre_ne (by omega)]
      unfold inSpan
      rw [cmp_lt h, if_neg (by decide)]
      by_cases he : endOf p = []
      · rw [end_low he (by omega), if_neg (by simp)]
        have hs := succ_toNat (a := a) (by omega)
        rcases Nat.lt_or_ge (a + 1).toNat b.toNat with g | g
        · rw [cmp_gt g]; decide
        · rw [cmp_eq (by omega)]
          have := cmp_nil_right n
          exact decide_eq_false (by omega)
      · rw [end_deep he, if_neg (by simp), cmp_gt h]; decide
    · rw [pre_eq h.symm, ← ih]
      unfold inSpan
      rw [cmp_eq h]
      by_cases hc : 0 < cmp p n
      · rw [if_pos hc, if_pos hc]
      · rw [if_neg hc, if_neg hc]
        by_cases he : endOf p = []
        · rw [if_pos he]
          by_cases hl : a.toNat < 255
          · have hs := succ_toNat hl
            rw [end_low he hl, if_neg (by simp), cmp_lt (by omega)]; decide
          · rw [end_none he hl, if_pos rfl]
        · rw [end_deep he, if_neg (by simp), if_neg he, cmp_eq h.symm]
    · rw [pre_ne (by omega)]
      unfold inSpan
      rw [cmp_gt h, if_pos (by decide)]

theorem pre_cmp : ∀ (a b : List UInt8), hasPre b a = true → cmp a b ≤ 0
  | [], b, _ => cmp_nil_left b
  | _ :: _, [], h => by cases h
  | x :: a, y :: b, h => by
    by_cases e : y.toNat = x.toNat
    · rw [pre_eq e] at h
      rw [cmp_eq e.symm]
      exact pre_cmp a b h
    · rw [pre_ne e] at h; cases h

/-- LAW 2, nested: the longer text's span ends no later. -/
theorem bound_nest : ∀ (a b : List UInt8), hasPre b a = true → boundLE (endOf b) (endOf a) = true
  | [], b, _ => by unfold boundLE; exact if_pos rfl
  | _ :: _, [], h => by cases h
  | x :: a, y :: b, h => by
    by_cases e : y.toNat = x.toNat
    · rw [pre_eq e] at h
      have ih := bound_nest a b h
      have exy : y = x := UInt8.toNat_inj.1 e
      subst exy
      by_cases ha : endOf a = []
      · by_cases hl : y.toNat < 255
        · have hs := succ_toNat hl
          rw [end_low ha hl]
          by_cases hb : endOf b = []
          · rw [end_low hb hl]
            unfold boundLE
            rw [if_neg (by simp), if_neg (by simp), cmp_self]; decide
          · rw [end_deep hb]
            unfold boundLE
            rw [if_neg (by simp), if_neg (by simp), cmp_lt (by omega)]; decide
        · rw [end_none ha hl]
          unfold boundLE
          exact if_pos rfl
      · unfold boundLE at ih
        rw [if_neg ha] at ih
        by_cases hb : endOf b = []
        · rw [if_pos hb] at ih; cases ih
        · rw [if_neg hb] at ih
          rw [end_deep ha, end_deep hb]
          unfold boundLE
          rw [if_neg (by simp), if_neg (by simp), cmp_eq rfl]
          exact ih
    · rw [pre_ne e] at h; cases h

/-- LAW 2, apart: one span ends before the other begins. -/
theorem apart : ∀ (a b : List UInt8), hasPre b a = false → hasPre a b = false → (endOf a ≠ [] ∧ cmp (endOf a) b ≤ 0) ∨ (endOf b ≠ [] ∧ cmp (endOf b) a ≤ 0)
  | [], b, h, _ => by cases b <;> cases h
  | _ :: _, [], _, h => by cases h
  | x :: a, y :: b, h1, h2 => by
    have hx := x.toNat_lt
    have hy := y.toNat_lt
    have one : ∀ (x y : UInt8) (a b : List UInt8), y.toNat < 256 → x.toNat < y.toNat → endOf (x :: a) ≠ [] ∧ cmp (endOf (x :: a)) (y :: b) ≤ 0 := by
      intro x y a b hy h
      by_cases ha : endOf a = []
      · have hl : x.toNat < 255 := by omega
        have hs := succ_toNat hl
        rw [end_low ha hl]
        refine ⟨by simp, ?_⟩
        rcases Nat.lt_or_ge (x + 1).toNat y.toNat with g | g
        · rw [cmp_lt g]; decide
        · rw [cmp_eq (by omega)]
          exact cmp_nil_left b
      · rw [end_deep ha]
        refine ⟨by simp, ?_⟩
        rw [cmp_lt h]; decide
    rcases Nat.lt_trichotomy x.toNat y.toNat with h | h | h
    · exact .inl (one x y a b hy h)
    · rw [pre_eq h.symm] at h1
      rw [pre_eq h] at h2
      rcases apart a b h1 h2 with ⟨g1, g2⟩ | ⟨g1, g2⟩
      · left
        rw [end_deep g1, cmp_eq h]
        exact ⟨by simp, g2⟩
      · right
        rw [end_deep g1, cmp_eq h.symm]
        exact ⟨by simp, g2⟩
    · exact .inr (one y x b a hx h)

theorem endOf_none : ∀ (p : List UInt8), (∀ j (h : j < p.length), p[j].toNat = 255) → endOf p = []
  | [], _ => rfl
  | a :: p, h => by
    have h0 : a.toNat = 255 := h 0 (by simp)
    exact end_none (endOf_none p fun j hj => h (j + 1) (by simpa using hj)) (by omega)

/-- The end, found from behind: byte i is the last below 255. -/
theorem endOf_at : ∀ (p : List UInt8) (i : Nat) (hi : i < p.length), p[i].toNat < 255 → (∀ j (h : j < p.length), i < j → p[j].toNat = 255) → endOf p = p.take i ++ [p[i] + 1]
  | a :: p, 0, _, h, hl => by
    have he : endOf p = [] := endOf_none p fun j hj => by
      have := hl (j + 1) (by simpa using hj) (by omega)
      simpa using this
    exact end_low he h
  | a :: p, i + 1, hi, h, hl => by
    have ih := endOf_at p i (by simpa using hi) (by simpa using h) fun j hj hij => by
      have := hl (j + 1) (by simpa using hj) (by omega)
      simpa using this
    have hne : endOf p ≠ [] := by rw [ih]; simp
    rw [end_deep hne, ih]
    simp

end Go.Proofs.Qxb6628966a.Plain
