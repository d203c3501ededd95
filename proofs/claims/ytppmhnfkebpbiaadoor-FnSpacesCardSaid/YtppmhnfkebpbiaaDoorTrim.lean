/- The walk of TrimLength over a text of bytes: the length without the white signs at both ends. -/
import Derived.Test.YtppmhnfkebpbiaaDoorLoops
namespace Go.Proofs.YtppmhnfkebpbiaaDoor
open Go.RowKit

theorem Chs.set {w : World} {c b : Nat} {s : ByteArray} {cap : Nat} (h : Chs w c b s cap) (hcb : c ≠ b) (j : Nat) (hj : 3 ≤ j) (v : Value) :
    Chs (w.setCell ⟨c, j, none⟩ v) c b s cap := by
  refine ⟨?_, ?_, fun i hi => ?_⟩
  · rw [World.cell?_setCell_other _ _ _ _ (by intro e; cases e; omega)]; exact h.slice
  · rw [World.cell?_setCell_other _ _ _ _ (by intro e; cases e; omega)]; exact h.flag
  · rw [World.cell?_setCell_other _ _ _ _ (by intro e; cases e; exact hcb rfl)]; exact h.bytes i hi

theorem sub_one_sub (n k : Nat) (h : k < n) : ∃ m : Nat, m = n - 1 - k ∧ ((n : Int) - 1 - k) = (m : Int) ∧ m < n := ⟨n - 1 - k, rfl, by omega, by omega⟩

theorem inner_all (s : ByteArray) (p : Nat) : inner s p s.size = 0 := if_pos rfl
theorem all_lead {s : ByteArray} (h : IsTrail s s.size) : IsLead s s.size :=
  ⟨Nat.le_refl _, fun i hi => by have := h.2.1 (s.size - 1 - i) (by omega); rwa [show s.size - 1 - (s.size - 1 - i) = i by omega] at this, fun e => absurd e (by omega)⟩

set_option maxHeartbeats 1600000 in
set_option maxRecDepth 100000 in
theorem trimLength (B c b : Nat) (s : ByteArray) (cap : Nat) (w : World) (h : Chs w c b s cap) (hcb : c ≠ b) (hB : B ≤ c) (hs : s.size ≤ 65535) (ha : Asc s)
    (h3 : w.cell? ⟨c, 3, none⟩ = some (.bool false)) (h4 : w.cell? ⟨c, 4, none⟩ = some (.int .u16 0)) (hf3 : w.frozen? ⟨c, 3, none⟩ = false) (hf4 : w.frozen? ⟨c, 4, none⟩ = false) :
    Calls Tryd.prog 10 #[.pointer (some ⟨c, 0, none⟩)] w fun e w' => ∃ p q : Nat, e = .returned (.int .u16 (inner s p q)) ∧ IsLead s p ∧ IsTrail s q ∧ Below B w w' := by
  have HA := Lib.hid ha
  have H1 := h.set hcb 3 (by omega) (.bool true)
  have H4 : (w.setCell ⟨c, 3, none⟩ (.bool true)).cell? ⟨c, 4, none⟩ = some (.int .u16 0) := by rw [World.cell?_setCell_other _ _ _ _ (by simp)]; exact h4
  have HB : Below B w (w.setCell ⟨c, 3, none⟩ (.bool true)) := (Below.refl _ _).setCell hB _
  clear ha
  go_enter Tryd.func10, Tryd.ntmps10
  go_wp2_with (go_at_call 7; refine (length c b s cap _ H1).mono ?_; rintro e w' ⟨rfl, rfl⟩)
  go_loop [3] (fun i => ∃ k : Nat, k ≤ s.size ∧ i = .int .i64 ((s.size : Int) - 1 - k) ∧ Hid (∀ j, j < k → ws (byt s (s.size - 1 - j)) = true)) (fun i => (intOf i + 1).toNat)
  case atStart => exact ⟨0, Nat.zero_le _, by go_num, fun j hj => by omega⟩
  case round =>
    obtain ⟨k, hk, rfl, H⟩ := hrel
    by_cases hlt : k < s.size
    · obtain ⟨m, hm, hmi, hml⟩ := sub_one_sub s.size k hlt
      rw [hmi]
      have hp := byt_nonneg s m
      have hb := HA.out m hml
      cases hw : ws (byt s m) with
      | true =>
        have HW := Lib.hid hw
        have HM := Lib.hid hm
        have HMI := Lib.hid hmi
        clear hw hm hmi
        go_wp2_with (first
          | (go_at_call 15; refine (get c b s cap _ H1 m hml hb).mono ?_; rintro e w' ⟨rfl, rfl⟩)
          | (go_at_call 16; refine (isSpace_is _ _ true hp hb HW.out).mono ?_; rintro e w' ⟨rfl, rfl⟩))
        go_round
        case rel =>
          refine ⟨k + 1, by omega, ?_, fun j hj => ?_⟩
          · have := HMI.out
            congr 1
            omega
          · by_cases e : j = k
            · subst e; rw [← HM.out]; exact HW.out
            · exact H.out j (by omega)
        case measure => have := HMI.out; simp [intOf]
      | false =>
        have HW := Lib.hid hw
        have HM := Lib.hid hm
        have HMI := Lib.hid hmi
        clear hw hm hmi
        have HT : Hid (IsTrail s k) := ⟨hk, H.out, fun _ => by rw [← HM.out]; exact HW.out⟩
        go_wp2_with (first
          | (go_at_call 15; refine (get c b s cap _ H1 m hml hb).mono ?_; rintro e w' ⟨rfl, rfl⟩)
          | (go_at_call 16; refine (isSpace_is _ _ false hp hb HW.out).mono ?_; rintro e w' ⟨rfl, rfl⟩))
        go_loop [6] (fun i => ∃ k : Nat, k ≤ m ∧ i = .int .i64 k ∧ Hid (∀ j, j < k → ws (byt s j) = true)) (fun i => s.size - (intOf i).toNat)
        case atStart => exact ⟨0, Nat.zero_le _, rfl, fun j hj => by omega⟩
        case round =>
          obtain ⟨p, hpm, rfl, H'⟩ := hrel
          have hpl : p < s.size := by omega
          have hp' := byt_nonneg s p
          have hb' := HA.out p hpl
          cases hw : ws (byt s p) with
          | true =>
            have hne : p ≠ m := by intro e; subst e; rw [HW.out] at hw; cases hw
            have HW' := Lib.hid hw
            clear hw
            go_wp2_with (first
              | (go_at_call 15; refine (get c b s cap _ H1 p hpl hb').mono ?_; rintro e w' ⟨rfl, rfl⟩)
              | (go_at_call 16; refine (isSpace_is _ _ true hp' hb' HW'.out).mono ?_; rintro e w' ⟨rfl, rfl⟩))
            go_round
            case rel =>
              refine ⟨p + 1, by omega, by go_num, fun j hj => ?_⟩
              by_cases e : j = p
              · subst e; exact HW'.out
              · exact H'.out j (by omega)
            case measure => simp [intOf]; omega
          | false =>
            have HW' := Lib.hid hw
            clear hw
            have HL : Hid (IsLead s p) := ⟨by omega, H'.out, fun _ => HW'.out⟩
            have hin : ((m : Int) - p + 1) = ((inner s p k : Nat) : Int) := by
              have := HMI.out
              unfold inner
              rw [if_neg (by omega)]; omega
            have HIN := Lib.hid hin
            have hle := inner_le s p k
            clear hin
            go_wp2_with (first
              | (go_at_call 15; refine (get c b s cap _ H1 p hpl hb').mono ?_; rintro e w' ⟨rfl, rfl⟩)
              | (go_at_call 16; refine (isSpace_is _ _ false hp' hb' HW'.out).mono ?_; rintro e w' ⟨rfl, rfl⟩)
              | (go_at_call 17; rw [HIN.out]; refine (asUint16 _ _ (by omega)).mono ?_; rintro e w' ⟨rfl, rfl⟩))
            go_ret
            exact ⟨p, k, rfl, HL, HT, HB.setCell hB _⟩
    · obtain rfl : k = s.size := by omega
      have HT : Hid (IsTrail s s.size) := ⟨hk, H.out, fun h => absurd h hlt⟩
      go_wp2
      go_ret
      exact ⟨s.size, s.size, by rw [inner_all]; rfl, all_lead HT, HT, HB⟩
end Go.Proofs.YtppmhnfkebpbiaaDoor
