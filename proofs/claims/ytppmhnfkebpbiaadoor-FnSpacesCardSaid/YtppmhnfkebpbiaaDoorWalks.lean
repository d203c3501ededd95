/- The walks of the small functions: IsSpace below 128, the methods of Chars over a text of bytes. -/
import Derived.Test.YtppmhnfkebpbiaaDoorProg
import Derived.Test.YtppmhnfkebpbiaaDoorPlain
import Derived.WalkKit
import Derived.WalkSpells
import Derived.Handy
namespace Go.Proofs.YtppmhnfkebpbiaaDoor
open Go.RowKit

theorem isSpace (n : Int) (w : World) (h0 : 0 ≤ n) (h1 : n < 128) :
    Calls Tryd.prog 16 #[.int .i32 n] w fun e w' => e = .returned (.bool (ws n)) ∧ w = w' := by
  have hu : IntKind.u32.wrap n = n := by rw [IntWalk.u32_in n (by omega)]
  by_cases c9 : n = 9
  · subst c9; go_enter Tryd.func16, Tryd.ntmps16; go_wp2; go_ret; exact ⟨rfl, rfl⟩
  by_cases c10 : n = 10
  · subst c10; go_enter Tryd.func16, Tryd.ntmps16; go_wp2; go_ret; exact ⟨rfl, rfl⟩
  by_cases c11 : n = 11
  · subst c11; go_enter Tryd.func16, Tryd.ntmps16; go_wp2; go_ret; exact ⟨rfl, rfl⟩
  by_cases c12 : n = 12
  · subst c12; go_enter Tryd.func16, Tryd.ntmps16; go_wp2; go_ret; exact ⟨rfl, rfl⟩
  by_cases c13 : n = 13
  · subst c13; go_enter Tryd.func16, Tryd.ntmps16; go_wp2; go_ret; exact ⟨rfl, rfl⟩
  by_cases c32 : n = 32
  · subst c32; go_enter Tryd.func16, Tryd.ntmps16; go_wp2; go_ret; exact ⟨rfl, rfl⟩
  have hw : ws n = false := by rw [ws_false]; omega
  rw [hw]
  clear hw
  go_enter Tryd.func16, Tryd.ntmps16
  go_wp2
  go_ret
  exact ⟨rfl, rfl⟩

/-- A text of bytes behind a pointer to Chars. -/
structure Chs (w : World) (c b : Nat) (s : ByteArray) (cap : Nat) : Prop where
  slice : w.cell? ⟨c, 0, none⟩ = some (.slice (some ⟨b, 0, none⟩) s.size cap)
  flag : w.cell? ⟨c, 2, none⟩ = some (.bool true)
  bytes : ∀ j, j < s.size → w.cell? ⟨b, j, none⟩ = some (.int .u8 (byt s j))

theorem optionalRunes (c b : Nat) (s : ByteArray) (cap : Nat) (w : World) (h : Chs w c b s cap) :
    Calls Tryd.prog 14 #[.pointer (some ⟨c, 0, none⟩)] w fun e w' => e = .returned (.slice none 0 0) ∧ w = w' := by
  have h2 := h.flag
  clear h
  go_enter Tryd.func14, Tryd.ntmps14
  go_wp2
  go_ret
  exact ⟨rfl, rfl⟩

theorem length (c b : Nat) (s : ByteArray) (cap : Nat) (w : World) (h : Chs w c b s cap) :
    Calls Tryd.prog 7 #[.pointer (some ⟨c, 0, none⟩)] w fun e w' => e = .returned (.int .i64 s.size) ∧ w = w' := by
  have h0 := h.slice
  have hn := fun (w : World) => run_neq_slice_nil_any (P := Tryd.prog) w 28 21 none 0 0 0 0 Tryd.underlying28
  go_enter Tryd.func7, Tryd.ntmps7
  go_wp2_with (go_at_call 14; refine (optionalRunes c b s cap _ h).mono ?_; rintro e w' ⟨rfl, rfl⟩)
  go_ret
  exact ⟨rfl, rfl⟩

theorem get (c b : Nat) (s : ByteArray) (cap : Nat) (w : World) (h : Chs w c b s cap) (i : Nat) (hi : i < s.size) (ha : byt s i < 128) :
    Calls Tryd.prog 15 #[.pointer (some ⟨c, 0, none⟩), .int .i64 i] w fun e w' => e = .returned (.int .i32 (byt s i)) ∧ w = w' := by
  have h0 := h.slice
  have hb := h.bytes i hi
  have hp := byt_nonneg s i
  have hn := fun (w : World) => run_neq_slice_nil_any (P := Tryd.prog) w 28 21 none 0 0 0 0 Tryd.underlying28
  go_enter Tryd.func15, Tryd.ntmps15
  go_wp2_with (go_at_call 14; refine (optionalRunes c b s cap _ h).mono ?_; rintro e w' ⟨rfl, rfl⟩)
  go_ret
  exact ⟨rfl, rfl⟩

theorem asUint16 (n : Nat) (w : World) (hn : n ≤ 65535) :
    Calls Tryd.prog 17 #[.int .i64 n] w fun e w' => e = .returned (.int .u16 n) ∧ w = w' := by
  go_enter Tryd.func17, Tryd.ntmps17
  go_wp2
  go_ret
  exact ⟨rfl, rfl⟩
end Go.Proofs.YtppmhnfkebpbiaaDoor
