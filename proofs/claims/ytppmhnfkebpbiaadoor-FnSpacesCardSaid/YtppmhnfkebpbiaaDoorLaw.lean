/- The walk of laws.FnSpaces. -/
import Derived.Test.YtppmhnfkebpbiaaDoorSpaces
import Derived.Test.YtppmhnfkebpbiaaDoorSigns
namespace Go.Proofs.YtppmhnfkebpbiaaDoor
open Go.RowKit

theorem good_asc {s : ByteArray} (h : Good s) : Asc s := fun k hk => by have := h k hk; rw [good_true] at this; omega
theorem ws_good {n : Int} (h : good n = true) : ws n = true ↔ n = 32 ∨ n = 9 := by rw [good_true] at h; rw [ws_true]; omega

/-- The text of one sign between two blanks. -/
theorem one_asc : Asc ⟨#[32, 97, 32]⟩ := fun k hk => by
  have : k = 0 ∨ k = 1 ∨ k = 2 := by have : k < 3 := hk; omega
  rcases this with rfl | rfl | rfl <;> decide
theorem at_zero {P : Nat → Prop} (h : P 0) : ∀ i, i < 1 → P i := fun i hi => by
  obtain rfl : i = 0 := by omega
  exact h
theorem one_lead : IsLead ⟨#[32, 97, 32]⟩ 1 := ⟨by decide, at_zero (by decide), fun _ => by decide⟩
theorem one_trail : IsTrail ⟨#[32, 97, 32]⟩ 1 := ⟨by decide, at_zero (P := fun i => ws (byt ⟨#[32, 97, 32]⟩ ((⟨#[32, 97, 32]⟩ : ByteArray).size - 1 - i)) = true) (by decide), fun _ => by decide⟩
theorem one_inner {p q : Nat} (h : IsLead ⟨#[32, 97, 32]⟩ p) (g : IsTrail ⟨#[32, 97, 32]⟩ q) : inner ⟨#[32, 97, 32]⟩ p q = 1 := by
  obtain rfl := h.unique one_lead
  obtain rfl := g.unique one_trail
  decide

theorem lead_stops {s : ByteArray} {a : Nat} (hk : a ≤ s.size) (H : ∀ j, j < a → ws (byt s j) = true) (h : ¬ (a < s.size ∧ ws (byt s a) = true)) : IsLead s a :=
  ⟨hk, H, fun hl => by cases e : ws (byt s a) with
    | false => rfl
    | true => exact absurd ⟨hl, e⟩ h⟩
theorem trail_stops {s : ByteArray} {a : Nat} (hk : a ≤ s.size) (H : ∀ j, j < a → ws (byt s (s.size - 1 - j)) = true) (h : ¬ (a < s.size ∧ ws (byt s (s.size - 1 - a)) = true)) : IsTrail s a :=
  ⟨hk, H, fun hl => by cases e : ws (byt s (s.size - 1 - a)) with
    | false => rfl
    | true => exact absurd ⟨hl, e⟩ h⟩
theorem stops {n a : Nat} {v : Int} (hk : a ≤ n) (hg : a < n → good v = true) (h : ¬ (a < n ∧ ws v = true)) : a = n ∨ (a < n ∧ (v == 32) = false ∧ (v == 9) = false) := by
  by_cases hl : a < n
  · refine .inr ⟨hl, ?_⟩
    have : ¬ (v = 32 ∨ v = 9) := fun hw => h ⟨hl, (ws_good (hg hl)).2 hw⟩
    constructor <;> (rw [beq_eq_false_iff_ne]; omega)
  · exact .inl (by omega)

/-- The number inside, in each of the two cases. -/
def inside (s : ByteArray) (a b : Nat) : Prop := (¬ b < s.size → ((inner s a b : Nat) : Int) = 0 ∧ (s.size : Int) ≤ a + b) ∧ (b < s.size → ((inner s a b : Nat) : Int) = (s.size : Int) - a - b ∧ a + b < s.size)
theorem inside_is {s : ByteArray} {a b : Nat} (h : IsLead s a) (g : IsTrail s b) : inside s a b := by
  constructor
  · intro hb
    have he : b = s.size := by have := g.1; omega
    subst he
    exact ⟨by rw [inner_all]; rfl, by omega⟩
  · intro hb
    have := lead_trail h g hb
    refine ⟨?_, this⟩
    unfold inner
    rw [if_neg (by omega)]; omega

set_option maxHeartbeats 2000000 in
set_option maxRecDepth 100000 in
theorem law (s : ByteArray) (w : World) (hs : s.size ≤ 140737488351232) :
    Calls Tryd.prog 3 #[.string s] w fun e w' => e = .returned (.bool true) ∧ Below w.heap.size w w' := by
  by_cases hl : s.size ≤ 2147483647
  · have gb := byt_get s
    go_enter Tryd.func3, Tryd.ntmps3
    go_wp2_with fail
    refine (signs s _ hl).mono ?_
    rintro e w1 ⟨⟨t, rfl, ht⟩, hb1⟩
    cases t with
    | false =>
      clear ht
      go_wp2
      go_ret
      exact ⟨rfl, hb1⟩
    | true =>
      obtain ⟨h300, hg⟩ := ht rfl
      clear ht
      have HG := Lib.hid hg
      clear hg
      go_wp2_with fail
      go_loop [3] (fun i => ∃ k : Nat, k ≤ s.size ∧ i = .int .i64 k ∧ Hid (∀ j, j < k → ws (byt s j) = true)) (fun i => s.size - (intOf i).toNat)
      case atStart => exact ⟨0, Nat.zero_le _, rfl, fun j hj => by omega⟩
      case round =>
        obtain ⟨a, hk, rfl, H⟩ := hrel
        by_cases hgo : a < s.size ∧ ws (byt s a) = true
        · obtain ⟨hlt, hw⟩ := hgo
          have hR : Hid (∀ j, j < a + 1 → ws (byt s j) = true) := fun j hj => by
            by_cases e : j = a
            · subst e; exact hw
            · exact H.out j (by omega)
          rw [ws_good (HG.out a hlt)] at hw
          rcases hw with h2 | h2
          all_goals
            go_wp2
            go_round
            case rel => exact ⟨a + 1, by omega, by go_num, hR⟩
            case measure => simp [intOf]; omega
        · have HL : Hid (IsLead s a) := lead_stops hk H.out hgo
          have hends : a = s.size ∨ (a < s.size ∧ (byt s a == 32) = false ∧ (byt s a == 9) = false) := stops hk (HG.out a) hgo
          clear hgo
          rcases hends with he | ⟨hlt, n1, n2⟩
          · have hlt : ¬ a < s.size := by omega
            have HE := Lib.hid he
            clear he
            go_wp2
            go_loop [4] (fun i => ∃ k : Nat, k ≤ s.size ∧ i = .int .i64 k ∧ Hid (∀ j, j < k → ws (byt s (s.size - 1 - j)) = true)) (fun i => s.size - (intOf i).toNat)
            case atStart => exact ⟨0, Nat.zero_le _, rfl, fun j hj => by omega⟩
            case round =>
              obtain ⟨b, hkb, rfl, H'⟩ := hrel
              by_cases hgo : b < s.size ∧ ws (byt s (s.size - 1 - b)) = true
              · obtain ⟨hltb, hw⟩ := hgo
                have hR : Hid (∀ j, j < b + 1 → ws (byt s (s.size - 1 - j)) = true) := fun j hj => by
                  by_cases e : j = b
                  · subst e; exact hw
                  · exact H'.out j (by omega)
                have hi : s.size - 1 - b < s.size := by omega
                rw [ws_good (HG.out _ hi)] at hw
                rcases hw with h2 | h2
                all_goals
                  go_wp2
                  go_round
                  case rel => exact ⟨b + 1, by omega, by go_num, hR⟩
                  case measure => simp [intOf]; omega
              · have HT : Hid (IsTrail s b) := trail_stops hkb H'.out hgo
                have hendb : b = s.size ∨ (b < s.size ∧ (byt s (s.size - 1 - b) == 32) = false ∧ (byt s (s.size - 1 - b) == 9) = false) := stops hkb (fun h => HG.out _ (by omega)) hgo
                clear hgo
                obtain ⟨hins⟩ : Nonempty (Hid (inside s a b)) := ⟨inside_is HL.out HT.out⟩
                rcases hendb with he | ⟨hltb, m1, m2⟩
                · have hltb : ¬ b < s.size := by omega
                  have HEB := Lib.hid he
                  clear he
                  have hz := hins.out.1 hltb
                  have HZ := Lib.hid hz.1
                  have hab : ¬ (0 : Int) < (s.size : Int) - a - b := by omega
                  clear hz
                  go_wp2_with fail
                  refine (spaces s _ (by omega) (good_asc HG.out)).mono ?_
                  rintro e w2 ⟨p, q, rfl, hp, hq, hb2⟩
                  obtain rfl := hp.unique HL.out
                  obtain rfl := hq.unique HT.out
                  clear hp hq
                  rw [HZ.out]
                  go_wp2_with fail
                  refine (spaces _ _ (by decide) one_asc).mono ?_
                  rintro e w3 ⟨p', q', rfl, hp', hq', hb3⟩
                  rw [one_inner hp' hq']
                  clear hp' hq'
                  go_wp2
                  go_ret
                  exact ⟨rfl, (hb1.trans (hb2.mono hb1.size)).trans (hb3.mono (Nat.le_trans hb1.size hb2.size))⟩
                · have hi : s.size - 1 - b < s.size := by omega
                  have hz := hins.out.2 hltb
                  have HZ := Lib.hid hz.1
                  have hab : (0 : Int) < (s.size : Int) - a - b := by omega
                  clear hz
                  go_wp2_with fail
                  refine (spaces s _ (by omega) (good_asc HG.out)).mono ?_
                  rintro e w2 ⟨p, q, rfl, hp, hq, hb2⟩
                  obtain rfl := hp.unique HL.out
                  obtain rfl := hq.unique HT.out
                  clear hp hq
                  rw [HZ.out]
                  go_wp2_with fail
                  refine (spaces _ _ (by decide) one_asc).mono ?_
                  rintro e w3 ⟨p', q', rfl, hp', hq', hb3⟩
                  rw [one_inner hp' hq']
                  clear hp' hq'
                  go_wp2
                  go_ret
                  exact ⟨rfl, (hb1.trans (hb2.mono hb1.size)).trans (hb3.mono (Nat.le_trans hb1.size hb2.size))⟩
          · go_wp2
            go_loop [4] (fun i => ∃ k : Nat, k ≤ s.size ∧ i = .int .i64 k ∧ Hid (∀ j, j < k → ws (byt s (s.size - 1 - j)) = true)) (fun i => s.size - (intOf i).toNat)
            case atStart => exact ⟨0, Nat.zero_le _, rfl, fun j hj => by omega⟩
            case round =>
              obtain ⟨b, hkb, rfl, H'⟩ := hrel
              by_cases hgo : b < s.size ∧ ws (byt s (s.size - 1 - b)) = true
              · obtain ⟨hltb, hw⟩ := hgo
                have hR : Hid (∀ j, j < b + 1 → ws (byt s (s.size - 1 - j)) = true) := fun j hj => by
                  by_cases e : j = b
                  · subst e; exact hw
                  · exact H'.out j (by omega)
                have hi : s.size - 1 - b < s.size := by omega
                rw [ws_good (HG.out _ hi)] at hw
                rcases hw with h2 | h2
                all_goals
                  go_wp2
                  go_round
                  case rel => exact ⟨b + 1, by omega, by go_num, hR⟩
                  case measure => simp [intOf]; omega
              · have HT : Hid (IsTrail s b) := trail_stops hkb H'.out hgo
                have hendb : b = s.size ∨ (b < s.size ∧ (byt s (s.size - 1 - b) == 32) = false ∧ (byt s (s.size - 1 - b) == 9) = false) := stops hkb (fun h => HG.out _ (by omega)) hgo
                clear hgo
                obtain ⟨hins⟩ : Nonempty (Hid (inside s a b)) := ⟨inside_is HL.out HT.out⟩
                rcases hendb with he | ⟨hltb, m1, m2⟩
                · have hltb : ¬ b < s.size := by omega
                  have HEB := Lib.hid he
                  clear he
                  have hz := hins.out.1 hltb
                  have HZ := Lib.hid hz.1
                  have hab : ¬ (0 : Int) < (s.size : Int) - a - b := by omega
                  clear hz
                  go_wp2_with fail
                  refine (spaces s _ (by omega) (good_asc HG.out)).mono ?_
                  rintro e w2 ⟨p, q, rfl, hp, hq, hb2⟩
                  obtain rfl := hp.unique HL.out
                  obtain rfl := hq.unique HT.out
                  clear hp hq
                  rw [HZ.out]
                  go_wp2_with fail
                  refine (spaces _ _ (by decide) one_asc).mono ?_
                  rintro e w3 ⟨p', q', rfl, hp', hq', hb3⟩
                  rw [one_inner hp' hq']
                  clear hp' hq'
                  go_wp2
                  go_ret
                  exact ⟨rfl, (hb1.trans (hb2.mono hb1.size)).trans (hb3.mono (Nat.le_trans hb1.size hb2.size))⟩
                · have hi : s.size - 1 - b < s.size := by omega
                  have hz := hins.out.2 hltb
                  have HZ := Lib.hid hz.1
                  have hab : (0 : Int) < (s.size : Int) - a - b := by omega
                  clear hz
                  go_wp2_with fail
                  refine (spaces s _ (by omega) (good_asc HG.out)).mono ?_
                  rintro e w2 ⟨p, q, rfl, hp, hq, hb2⟩
                  obtain rfl := hp.unique HL.out
                  obtain rfl := hq.unique HT.out
                  clear hp hq
                  rw [HZ.out]
                  go_wp2_with fail
                  refine (spaces _ _ (by decide) one_asc).mono ?_
                  rintro e w3 ⟨p', q', rfl, hp', hq', hb3⟩
                  rw [one_inner hp' hq']
                  clear hp' hq'
                  go_wp2
                  go_ret
                  exact ⟨rfl, (hb1.trans (hb2.mono hb1.size)).trans (hb3.mono (Nat.le_trans hb1.size hb2.size))⟩
  · have hl' : ¬ (s.size : Int) ≤ 2147483647 := by omega
    go_enter Tryd.func3, Tryd.ntmps3
    go_wp2
    go_ret
    exact ⟨rfl, Below.refl _ _⟩
end Go.Proofs.YtppmhnfkebpbiaaDoor
