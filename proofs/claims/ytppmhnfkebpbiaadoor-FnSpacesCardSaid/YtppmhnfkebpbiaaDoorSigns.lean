/- The walk of laws.signs at a text and the empty pattern. -/
import Derived.Test.YtppmhnfkebpbiaaDoorPlain
import Derived.Test.YtppmhnfkebpbiaaDoorProg
import Derived.WalkKit
import Derived.WalkSpells
import Derived.Handy
import Derived.LoopN
import Derived.Lib.Hide
namespace Go.Proofs.YtppmhnfkebpbiaaDoor
open Go.RowKit

/-- A sign that the law speaks of. -/
def good (n : Int) : Bool := decide (n ≤ 126) && (decide (32 ≤ n) || n == 9)
/-- All signs of a text are such. -/
def Good (s : ByteArray) : Prop := ∀ j, j < s.size → good (byt s j) = true

theorem good_true {n : Int} : good n = true ↔ n ≤ 126 ∧ (32 ≤ n ∨ n = 9) := by simp [good]

/-- What signs tells: true of no text but a short one of such signs. -/
def Tells (s : ByteArray) (e : Ending) : Prop := ∃ t : Bool, e = .returned (.bool t) ∧ (t = true → s.size ≤ 300 ∧ Good s)
theorem tells_no (s : ByteArray) : Tells s (.returned (.bool false)) := ⟨false, rfl, fun h => by cases h⟩

set_option maxHeartbeats 800000 in
set_option maxRecDepth 100000 in
theorem signs (s : ByteArray) (w : World) (hs : s.size ≤ 2147483647) :
    Calls Tryd.prog 4 #[.string s, .string ⟨#[]⟩] w fun e w' => Tells s e ∧ Below w.heap.size w w' := by
  have gb := byt_get s
  have hB := fun o => (Below.refl w.heap.size w).alloc (Nat.le_refl _) o
  go_enter Tryd.func4, Tryd.ntmps4
  go_wp2_with fail
  refine wp_loop_rounds 3 ?_
  rw [rounds_succ]
  go_wp2_with fail
  go_loop [18] (fun i => ∃ k : Nat, k ≤ s.size ∧ i = .int .i64 k ∧ Hid (∀ j, j < k → good (byt s j) = true)) (fun i => s.size - (intOf i).toNat)
  case atStart => exact ⟨0, Nat.zero_le _, rfl, fun j hj => by omega⟩
  case round =>
    obtain ⟨k, hk, rfl, H⟩ := hrel
    by_cases hlt : k < s.size
    · have hp := byt_nonneg s k
      by_cases hg : good (byt s k) = true
      · have hR : Hid (∀ j, j < k + 1 → good (byt s j) = true) := fun j hj => by
          by_cases e : j = k
          · subst e; exact hg
          · exact H.out j (by omega)
        rw [good_true] at hg
        obtain ⟨h1, h2 | h2⟩ := hg
        · go_wp2
          go_round
          case rel => exact ⟨k + 1, by omega, by go_num, hR⟩
          case measure => simp [intOf]; omega
        · go_wp2
          go_round
          case rel => exact ⟨k + 1, by omega, by go_num, hR⟩
          case measure => simp [intOf]; omega
      · have hF : Hid ((false : Bool) = true → s.size ≤ 300 ∧ Good s) := fun h => by cases h
        rw [good_true] at hg
        by_cases h1 : byt s k ≤ 126
        · have h2 : byt s k < 32 := by omega
          have h3 : (byt s k != 9) = true := by simp; omega
          clear hg
          go_wp2
          go_ret
          exact ⟨tells_no s, hB _⟩
        · clear hg
          go_wp2
          go_ret
          exact ⟨tells_no s, hB _⟩
    · have hG : Hid (Good s) := fun j hj => H.out j (by omega)
      go_wp2
      rw [rounds_succ]
      go_wp2_with fail
      refine wp_loop_rounds 1 ?_
      rw [rounds_succ]
      go_wp2
      rw [rounds_succ]
      by_cases h3 : s.size ≤ 300
      · have h3' : (s.size : Int) ≤ 300 := by omega
        go_wp2
        go_ret
        exact ⟨⟨true, rfl, fun _ => ⟨h3, hG.out⟩⟩, hB _⟩
      · have h3' : ¬ (s.size : Int) ≤ 300 := by omega
        go_wp2
        go_ret
        exact ⟨tells_no s, hB _⟩
end Go.Proofs.YtppmhnfkebpbiaaDoor
