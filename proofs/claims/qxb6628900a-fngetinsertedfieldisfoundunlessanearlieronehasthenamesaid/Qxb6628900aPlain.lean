/-
  The plain side of the two laws on header fields: bytes, their letter case, the first field of a name. No Go in sight.
-/
namespace Go.Proofs.Qxb6628900a.Plain

/-- A byte, an ASCII capital turned small. -/
def low (c : UInt8) : UInt8 := if 65 ≤ c.toNat ∧ c.toNat ≤ 90 then c + 32 else c
/-- A byte, an ASCII letter's case turned over. -/
def swp (c : UInt8) : UInt8 := if 65 ≤ c.toNat ∧ c.toNat ≤ 90 then c + 32 else if 97 ≤ c.toNat ∧ c.toNat ≤ 122 then c - 32 else c

theorem add32 (c : UInt8) (h : c.toNat ≤ 90) : (c + 32).toNat = c.toNat + 32 := by
  rw [UInt8.toNat_add]; have : (32 : UInt8).toNat = 32 := rfl; omega
theorem sub32 (c : UInt8) (h : 97 ≤ c.toNat) : (c - 32).toNat = c.toNat - 32 := by
  rw [UInt8.toNat_sub]; have : (32 : UInt8).toNat = 32 := rfl; have := c.toNat_lt; omega

theorem low_toNat (c : UInt8) : (low c).toNat = if 65 ≤ c.toNat ∧ c.toNat ≤ 90 then c.toNat + 32 else c.toNat := by
  unfold low
  split
  · rename_i h; exact add32 c h.2
  · rfl
theorem swp_toNat (c : UInt8) : (swp c).toNat = if 65 ≤ c.toNat ∧ c.toNat ≤ 90 then c.toNat + 32 else if 97 ≤ c.toNat ∧ c.toNat ≤ 122 then c.toNat - 32 else c.toNat := by
  unfold swp
  split
  · rename_i h; exact add32 c h.2
  · split
    · rename_i h; exact sub32 c h.1
    · rfl

theorem low_swp (c : UInt8) : low (swp c) = low c := by
  apply UInt8.toNat_inj.1
  rw [low_toNat, low_toNat, swp_toNat]
  have := c.toNat_lt
  by_cases h1 : 65 ≤ c.toNat ∧ c.toNat ≤ 90
  · simp only [h1, and_self, if_true]
    rw [if_neg (by omega)]
  · rw [if_neg h1, if_neg h1]
    by_cases h2 : 97 ≤ c.toNat ∧ c.toNat ≤ 122
    · rw [if_pos h2, if_pos (by omega)]; omega
    · rw [if_neg h2, if_neg h1]

/-- A string, each byte turned by f. -/
def mapS (f : UInt8 → UInt8) (s : ByteArray) : ByteArray := ⟨(s.data.toList.map f).toArray⟩
def lowS (s : ByteArray) : ByteArray := mapS low s
def swpS (s : ByteArray) : ByteArray := mapS swp s

theorem size_mapS (f : UInt8 → UInt8) (s : ByteArray) : (mapS f s).size = s.size := by
  show ((s.data.toList.map f).toArray).size = s.data.size
  simp

theorem lowS_swpS (s : ByteArray) : lowS (swpS s) = lowS s := by
  have e : low ∘ swp = low := funext low_swp
  unfold lowS swpS mapS
  rw [List.map_map, e]

/-- Two names are one up to letter case. -/
def same (a b : ByteArray) : Bool := decide (lowS a = lowS b)

theorem same_swp_right (a b : ByteArray) : same a (swpS b) = same a b := by unfold same; rw [lowS_swpS]
theorem same_swp_left (a b : ByteArray) : same (swpS a) b = same a b := by unfold same; rw [lowS_swpS]

end Go.Proofs.Qxb6628900a.Plain
