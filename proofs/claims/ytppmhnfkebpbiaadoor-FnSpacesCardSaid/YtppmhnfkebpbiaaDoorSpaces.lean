/- The walk of impl.Spaces over a text of bytes below 128. -/
import Derived.Test.YtppmhnfkebpbiaaDoorMade
namespace Go.Proofs.YtppmhnfkebpbiaaDoor
open Go.RowKit

theorem bytes_below (w : World) (s : ByteArray) : Below w.heap.size w (Lib.bytesWorld w 5 s) :=
  ⟨rfl, rfl, rfl, by rw [Lib.bytesWorld_size]; omega, fun k hk => Lib.bytesWorld_at_old w 5 s k hk⟩
theorem bytes_cells (w : World) (s : ByteArray) : Hid (∀ j, j < s.size → (Lib.bytesWorld w 5 s).cell? ⟨w.heap.size, j, none⟩ = some (.int .u8 (byt s j))) :=
  fun j hj => Lib.bytesWorld_cell w 5 s j hj

/-- The block of a local variable of type Chars, just made. -/
def boxOf (b n cap : Nat) : Obj := .cells #[.slice (some ⟨b, 0, none⟩) n cap, .slice none 0 0, .bool true, .bool false, .int .u16 0, .int .i32 0] 31
theorem chs_made {w1 : World} {b cap : Nat} {s : ByteArray} (hb : b < w1.heap.size) (hc : Hid (∀ j, j < s.size → w1.cell? ⟨b, j, none⟩ = some (.int .u8 (byt s j)))) :
    Chs (w1.alloc (boxOf b s.size cap)) w1.heap.size b s cap :=
  ⟨by simp [boxOf], by simp [boxOf], fun j hj => by rw [World.cell?_alloc_lt _ _ _ hb]; exact hc.out j hj⟩
theorem chs_known (w1 : World) (b n cap : Nat) : (w1.alloc (boxOf b n cap)).cell? ⟨w1.heap.size, 3, none⟩ = some (.bool false) ∧ (w1.alloc (boxOf b n cap)).cell? ⟨w1.heap.size, 4, none⟩ = some (.int .u16 0) ∧
    (w1.alloc (boxOf b n cap)).frozen? ⟨w1.heap.size, 3, none⟩ = false ∧ (w1.alloc (boxOf b n cap)).frozen? ⟨w1.heap.size, 4, none⟩ = false :=
  ⟨by simp [boxOf], by simp [boxOf], by simp [boxOf], by simp [boxOf]⟩

set_option maxHeartbeats 800000 in
set_option maxRecDepth 100000 in
theorem spaces (s : ByteArray) (w : World) (hs : s.size ≤ 65535) (ha : Asc s) :
    Calls Tryd.prog 5 #[.string s] w fun e w' => ∃ p q : Nat, e = .returned (.tuple #[.int .i64 s.size, .int .i64 p, .int .i64 q, .int .i64 (inner s p q)]) ∧ IsLead s p ∧ IsTrail s q ∧ Below w.heap.size w w' := by
  have HA := Lib.hid ha
  clear ha
  have hB := bytes_below w s
  have HC := bytes_cells w s
  have hz : w.heap.size < (Lib.bytesWorld w 5 s).heap.size := by rw [Lib.bytesWorld_size]; omega
  have hconv := Lib.run_convert_string_bytes (P := Tryd.prog) w 9 27 5 s Tryd.underlying9 Tryd.underlying27 Tryd.underlying5
  obtain ⟨W, HW⟩ : ∃ W, Hid (W = Lib.bytesWorld w 5 s) := ⟨_, rfl⟩
  rw [← HW.out] at hB HC hz hconv
  go_enter Tryd.func5, Tryd.ntmps5
  go_wp2_with fail
  refine (toChars w.heap.size s _ _ (by omega) HA.out HC hz).mono ?_
  rintro e w1 ⟨rfl, hb1⟩
  have hz1 : w.heap.size < w1.heap.size := by have := hb1.size; omega
  have H2 := chs_made (cap := grownCap w s.size 0 5) hz1 (Below.cells hb1 hz HC)
  obtain ⟨k3, k4, f3, f4⟩ := chs_known w1 w.heap.size s.size (grownCap w s.size 0 5)
  have hB2 : Below w.heap.size w (w1.alloc (boxOf w.heap.size s.size (grownCap w s.size 0 5))) := (hB.trans (hb1.mono (by omega))).alloc (by omega) _
  unfold boxOf at H2 k3 k4 f3 f4 hB2
  unfold charsOf
  go_wp2_with fail
  refine (length _ _ s _ _ H2).mono ?_
  rintro e w2 ⟨rfl, rfl⟩
  go_wp2_with fail
  refine (leading _ _ s _ _ H2 (by omega) HA.out).mono ?_
  rintro e w2 ⟨p, rfl, hp, rfl⟩
  have HP := Lib.hid hp
  clear hp
  go_wp2_with fail
  refine (trailing _ _ s _ _ H2 (by omega) HA.out).mono ?_
  rintro e w2 ⟨q, rfl, hq, rfl⟩
  have HQ := Lib.hid hq
  clear hq
  go_wp2_with fail
  refine (trimLength w.heap.size _ _ s _ _ H2 (by omega) (by omega) (by omega) HA.out k3 k4 f3 f4).mono ?_
  rintro e w3 ⟨p', q', rfl, hp, hq, hb3⟩
  obtain rfl := hp.unique HP.out
  obtain rfl := hq.unique HQ.out
  clear hp hq
  have hle := inner_le s p' q'
  go_wp2
  refine bodyPost_ret (v := .tuple #[.int .i64 s.size, .int .i64 p', .int .i64 q', .int .i64 (inner s p' q')]) (by simp [results, Tryd.results5, go_sem]) rfl ⟨p', q', rfl, HP.out, HQ.out, hB2.trans hb3⟩
end Go.Proofs.YtppmhnfkebpbiaaDoor
