/- The walks of the loops over a text of bytes: white signs ahead, behind, and the length without them. -/
import Derived.Test.YtppmhnfkebpbiaaDoorWalks
import Derived.Lib.Hide
namespace Go.Proofs.YtppmhnfkebpbiaaDoor
open Go.RowKit

theorem isSpace_is (n : Int) (w : World) (t : Bool) (h0 : 0 ≤ n) (h1 : n < 128) (hw : ws n = t) :
    Calls Tryd.prog 16 #[.int .i32 n] w fun e w' => e = .returned (.bool t) ∧ w = w' := by
  rw [← hw]; exact isSpace n w h0 h1

set_option maxHeartbeats 400000 in
theorem leading (c b : Nat) (s : ByteArray) (cap : Nat) (w : World) (h : Chs w c b s cap) (hs : s.size ≤ 2147483647) (ha : Asc s) :
    Calls Tryd.prog 8 #[.pointer (some ⟨c, 0, none⟩)] w fun e w' => ∃ k : Nat, e = .returned (.int .i64 k) ∧ IsLead s k ∧ w = w' := by
  have HA := Lib.hid ha
  clear ha
  go_enter Tryd.func8, Tryd.ntmps8
  go_wp2
  go_loop [3, 4] (fun a i => ∃ k : Nat, k ≤ s.size ∧ i = .int .i64 k ∧ a = .int .i64 k ∧ Hid (∀ j, j < k → ws (byt s j) = true)) (fun _ i => s.size - (intOf i).toNat)
  case atStart => exact ⟨0, Nat.zero_le _, rfl, rfl, fun j hj => by omega⟩
  case round =>
    obtain ⟨k, hk, rfl, rfl, H⟩ := hrel
    by_cases hlt : k < s.size
    · have hp := byt_nonneg s k
      have hb := HA.out k hlt
      cases hw : ws (byt s k) with
      | true =>
        have HW := Lib.hid hw
        clear hw
        go_wp2_with (first
          | (go_at_call 7; refine (length c b s cap _ h).mono ?_; rintro e w' ⟨rfl, rfl⟩)
          | (go_at_call 15; refine (get c b s cap _ h k hlt hb).mono ?_; rintro e w' ⟨rfl, rfl⟩)
          | (go_at_call 16; refine (isSpace_is _ _ true hp hb HW.out).mono ?_; rintro e w' ⟨rfl, rfl⟩))
        go_round
        case rel =>
          refine ⟨k + 1, by omega, by go_num, by go_num, fun j hj => ?_⟩
          by_cases e : j = k
          · subst e; exact HW.out
          · exact H.out j (by omega)
        case measure => simp [intOf]; omega
      | false =>
        have HW := Lib.hid hw
        clear hw
        go_wp2_with (first
          | (go_at_call 7; refine (length c b s cap _ h).mono ?_; rintro e w' ⟨rfl, rfl⟩)
          | (go_at_call 15; refine (get c b s cap _ h k hlt hb).mono ?_; rintro e w' ⟨rfl, rfl⟩)
          | (go_at_call 16; refine (isSpace_is _ _ false hp hb HW.out).mono ?_; rintro e w' ⟨rfl, rfl⟩))
        go_ret
        exact ⟨k, rfl, ⟨hk, H.out, fun _ => HW.out⟩, rfl⟩
    · go_wp2_with (go_at_call 7; refine (length c b s cap _ h).mono ?_; rintro e w' ⟨rfl, rfl⟩)
      go_ret
      exact ⟨k, rfl, ⟨hk, H.out, fun h => absurd h hlt⟩, rfl⟩

set_option maxHeartbeats 400000 in
theorem trailing (c b : Nat) (s : ByteArray) (cap : Nat) (w : World) (h : Chs w c b s cap) (hs : s.size ≤ 2147483647) (ha : Asc s) :
    Calls Tryd.prog 9 #[.pointer (some ⟨c, 0, none⟩)] w fun e w' => ∃ k : Nat, e = .returned (.int .i64 k) ∧ IsTrail s k ∧ w = w' := by
  have HA := Lib.hid ha
  clear ha
  go_enter Tryd.func9, Tryd.ntmps9
  go_wp2_with (go_at_call 7; refine (length c b s cap _ h).mono ?_; rintro e w' ⟨rfl, rfl⟩)
  go_loop [3, 4] (fun a i => ∃ k : Nat, k ≤ s.size ∧ i = .int .i64 ((s.size : Int) - 1 - k) ∧ a = .int .i64 k ∧ Hid (∀ j, j < k → ws (byt s (s.size - 1 - j)) = true)) (fun a _ => s.size - (intOf a).toNat)
  case atStart => exact ⟨0, Nat.zero_le _, by go_num, rfl, fun j hj => by omega⟩
  case round =>
    obtain ⟨k, hk, rfl, rfl, H⟩ := hrel
    by_cases hlt : k < s.size
    · obtain ⟨m, hm⟩ : ∃ m, m = s.size - 1 - k := ⟨_, rfl⟩
      have hmi : ((s.size : Int) - 1 - k) = (m : Int) := by omega
      rw [hmi]
      have hml : m < s.size := by omega
      have hp := byt_nonneg s m
      have hb := HA.out m hml
      cases hw : ws (byt s m) with
      | true =>
        have HW := Lib.hid hw
        have HM := Lib.hid hm
        have HMI := Lib.hid hmi
        clear hw hm hmi
        go_wp2_with (first
          | (go_at_call 15; refine (get c b s cap _ h m hml hb).mono ?_; rintro e w' ⟨rfl, rfl⟩)
          | (go_at_call 16; refine (isSpace_is _ _ true hp hb HW.out).mono ?_; rintro e w' ⟨rfl, rfl⟩))
        go_round
        case rel =>
          refine ⟨k + 1, by omega, ?_, by go_num, fun j hj => ?_⟩
          · have := HMI.out
            congr 1
            omega
          · by_cases e : j = k
            · subst e; rw [← HM.out]; exact HW.out
            · exact H.out j (by omega)
        case measure => simp [intOf]; omega
      | false =>
        have HW := Lib.hid hw
        have HM := Lib.hid hm
        have HMI := Lib.hid hmi
        clear hw hm hmi
        go_wp2_with (first
          | (go_at_call 15; refine (get c b s cap _ h m hml hb).mono ?_; rintro e w' ⟨rfl, rfl⟩)
          | (go_at_call 16; refine (isSpace_is _ _ false hp hb HW.out).mono ?_; rintro e w' ⟨rfl, rfl⟩))
        go_ret
        exact ⟨k, rfl, ⟨hk, H.out, fun _ => by rw [← HM.out]; exact HW.out⟩, rfl⟩
    · go_wp2
      go_ret
      exact ⟨k, rfl, ⟨hk, H.out, fun h => absurd h hlt⟩, rfl⟩
end Go.Proofs.YtppmhnfkebpbiaaDoor
