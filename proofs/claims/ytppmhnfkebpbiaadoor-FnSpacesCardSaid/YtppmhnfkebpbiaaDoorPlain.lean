/- What is said of a text's white ends, as plain facts on a list of bytes: no program in sight. -/
import Derived.WalkKit
namespace Go.Proofs.YtppmhnfkebpbiaaDoor
open Go.RowKit

/-- A text's byte at a place, as a number. -/
def byt (s : ByteArray) (k : Nat) : Int := ((s.data.toList.getD k 0).toNat : Int)
theorem byt_nonneg (s : ByteArray) (k : Nat) : 0 ≤ byt s k := by unfold byt; omega
theorem byt_get (s : ByteArray) (k : Nat) (h : k < s.size) : ((s[k]'h).toNat : Int) = byt s k := by
  unfold byt
  have h' : k < s.data.toList.length := by simpa using h
  rw [List.getD, List.getElem?_eq_getElem h']
  rfl

/-- White, of a sign below 128. -/
def ws (n : Int) : Bool := n == 32 || (decide (9 ≤ n) && decide (n ≤ 13))
theorem ws_true {n : Int} : ws n = true ↔ n = 32 ∨ (9 ≤ n ∧ n ≤ 13) := by simp [ws]
theorem ws_false {n : Int} : ws n = false ↔ n ≠ 32 ∧ ¬ (9 ≤ n ∧ n ≤ 13) := by
  rw [← Bool.not_eq_true, ws_true]; omega

/-- All bytes are below 128. -/
def Asc (s : ByteArray) : Prop := ∀ k, k < s.size → byt s k < 128

/-- k white signs stand ahead, and no more. -/
def IsLead (s : ByteArray) (k : Nat) : Prop := k ≤ s.size ∧ (∀ i, i < k → ws (byt s i) = true) ∧ (k < s.size → ws (byt s k) = false)
/-- k white signs stand behind, and no more. -/
def IsTrail (s : ByteArray) (k : Nat) : Prop := k ≤ s.size ∧ (∀ i, i < k → ws (byt s (s.size - 1 - i)) = true) ∧ (k < s.size → ws (byt s (s.size - 1 - k)) = false)

theorem IsLead.unique {s : ByteArray} {a b : Nat} (h : IsLead s a) (g : IsLead s b) : a = b := by
  obtain ⟨h1, h2, h3⟩ := h; obtain ⟨g1, g2, g3⟩ := g
  rcases Nat.lt_trichotomy a b with hl | he | hl
  · have := g2 a hl; rw [h3 (by omega)] at this; cases this
  · exact he
  · have := h2 b hl; rw [g3 (by omega)] at this; cases this
theorem IsTrail.unique {s : ByteArray} {a b : Nat} (h : IsTrail s a) (g : IsTrail s b) : a = b := by
  obtain ⟨h1, h2, h3⟩ := h; obtain ⟨g1, g2, g3⟩ := g
  rcases Nat.lt_trichotomy a b with hl | he | hl
  · have := g2 a hl; rw [h3 (by omega)] at this; cases this
  · exact he
  · have := h2 b hl; rw [g3 (by omega)] at this; cases this

/-- What is left between the two: nothing of a text all white. -/
def inner (s : ByteArray) (a b : Nat) : Nat := if b = s.size then 0 else s.size - b - a
theorem lead_all {s : ByteArray} {a : Nat} (h : IsLead s a) (g : IsTrail s s.size) : a = s.size := by
  obtain ⟨h1, h2, h3⟩ := h; obtain ⟨g1, g2, g3⟩ := g
  by_cases e : a < s.size
  · have := g2 (s.size - 1 - a) (by omega)
    rw [show s.size - 1 - (s.size - 1 - a) = a by omega, h3 e] at this; cases this
  · omega
theorem lead_trail {s : ByteArray} {a b : Nat} (h : IsLead s a) (g : IsTrail s b) (hb : b < s.size) : a + b < s.size := by
  obtain ⟨h1, h2, h3⟩ := h; obtain ⟨g1, g2, g3⟩ := g
  by_cases e : s.size - 1 - b < a
  · have := h2 _ e; rw [g3 hb] at this; cases this
  · omega
theorem inner_max {s : ByteArray} {a b : Nat} (h : IsLead s a) (g : IsTrail s b) : (inner s a b : Int) = max 0 ((s.size : Int) - a - b) := by
  unfold inner
  by_cases e : b = s.size
  · subst e
    rw [if_pos rfl, lead_all h g]; omega
  · have := lead_trail h g (by have := g.1; omega)
    rw [if_neg e]; omega
theorem inner_le (s : ByteArray) (a b : Nat) : inner s a b ≤ s.size := by unfold inner; split <;> omega
end Go.Proofs.YtppmhnfkebpbiaaDoor
