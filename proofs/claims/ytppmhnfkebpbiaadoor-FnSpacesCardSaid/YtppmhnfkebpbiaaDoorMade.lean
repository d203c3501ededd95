/- The walks of checkAscii, ToChars and Spaces over a text of bytes below 128. -/
import Derived.Test.YtppmhnfkebpbiaaDoorTrim
import Derived.Lib.ConvBytes
namespace Go.Proofs.YtppmhnfkebpbiaaDoor
open Go.RowKit

set_option maxRecDepth 100000 in
theorem checkAscii (b : Nat) (s : ByteArray) (cap : Nat) (w : World) (hs : s.size ≤ 2147483647) (ha : Asc s) (hc : Hid (∀ j, j < s.size → w.cell? ⟨b, j, none⟩ = some (.int .u8 (byt s j)))) :
    Calls Tryd.prog 11 #[.slice (some ⟨b, 0, none⟩) s.size cap] w fun e w' => e = .returned (.tuple #[.bool true, .int .i64 0]) ∧ w = w' := by
  have HA := Lib.hid ha
  clear ha
  go_enter Tryd.func11, Tryd.ntmps11
  go_wp2
  go_loop [4] (fun i => ∃ k : Nat, k ≤ s.size ∧ i = .int .i64 k) (fun i => s.size - (intOf i).toNat)
  case atStart => exact ⟨0, Nat.zero_le _, rfl⟩
  case round =>
    obtain ⟨k, hk, rfl⟩ := hrel
    by_cases hlt : k < s.size
    · have hp := byt_nonneg s k
      have hb := HA.out k hlt
      have hcell := hc.out k hlt
      go_wp2
      go_round
      case rel => exact ⟨k + 1, by omega, by go_num⟩
      case measure => simp [intOf]; omega
    · go_wp2
      go_ret2
      exact ⟨rfl, rfl⟩

/-- What ToChars makes of a text of bytes below 128. -/
def charsOf (b n cap : Nat) : Value := .agg #[.slice (some ⟨b, 0, none⟩) n cap, .slice none 0 0, .bool true, .bool false, .int .u16 0, .int .i32 0]

theorem Below.cells {w w1 : World} {b : Nat} {s : ByteArray} (hb : Below w.heap.size w w1) (hbw : b < w.heap.size) (hc : Hid (∀ j, j < s.size → w.cell? ⟨b, j, none⟩ = some (.int .u8 (byt s j)))) :
    Hid (∀ j, j < s.size → w1.cell? ⟨b, j, none⟩ = some (.int .u8 (byt s j))) :=
  fun j hj => (hb.cell (p := ⟨b, j, none⟩) hbw).trans (hc j hj)

set_option maxHeartbeats 400000 in
set_option maxRecDepth 100000 in
theorem toChars (b : Nat) (s : ByteArray) (cap : Nat) (w : World) (hs : s.size ≤ 2147483647) (ha : Asc s) (hc : Hid (∀ j, j < s.size → w.cell? ⟨b, j, none⟩ = some (.int .u8 (byt s j)))) (hbw : b < w.heap.size) :
    Calls Tryd.prog 6 #[.slice (some ⟨b, 0, none⟩) s.size cap] w fun e w' => e = .returned (charsOf b s.size cap) ∧ Below w.heap.size w w' := by
  have HA := Lib.hid ha
  have HC := fun o => Below.cells ((Below.refl _ w).alloc (Nat.le_refl _) o) hbw hc
  clear ha
  go_enter Tryd.func6, Tryd.ntmps6
  go_wp2_with (go_at_call 11; refine (checkAscii b s cap _ hs HA.out (HC _)).mono ?_; rintro e w' ⟨rfl, rfl⟩)
  refine bodyPost_ret (v := charsOf b s.size cap) (by simp [charsOf, results, Tryd.results6, go_sem]) rfl ⟨rfl, ?_⟩
  go_grown
end Go.Proofs.YtppmhnfkebpbiaaDoor
