/- Whether a text is of characters: its word of eight bytes. -/
import Derived.Test.YtlglijnaeaonpaaGreatDoorMk
set_option linter.all false
/- Whether a text is of characters: its word of eight bytes. -/
namespace Go.Proofs.YtlglijnaeaonpaaGreatDoor.Css
open Go.RowKit

/-- Bytes lie at a place. -/
def Byt (w : World) (b o m : Nat) : Prop := ∀ i, i < m → ∃ c : Int, 0 ≤ c ∧ c ≤ 255 ∧ w.cell? ⟨b, o + i, none⟩ = some (.int .u8 c)

/-- The number that eight bytes make. -/
def wdv (c0 c1 c2 c3 c4 c5 c6 c7 : Int) : Int :=
  bits BinOp.or IntKind.u64 (bits BinOp.or IntKind.u64 (bits BinOp.or IntKind.u64 (bits BinOp.or IntKind.u64 (bits BinOp.or IntKind.u64 (bits BinOp.or IntKind.u64 (bits BinOp.or IntKind.u64 (IntKind.u64.wrap c0)
    (IntKind.u64.wrap (IntKind.u64.wrap c1 * 256))) (IntKind.u64.wrap (IntKind.u64.wrap c2 * 65536))) (IntKind.u64.wrap (IntKind.u64.wrap c3 * 16777216))) (IntKind.u64.wrap (IntKind.u64.wrap c4 * 4294967296)))
    (IntKind.u64.wrap (IntKind.u64.wrap c5 * 1099511627776))) (IntKind.u64.wrap (IntKind.u64.wrap c6 * 281474976710656))) (IntKind.u64.wrap (IntKind.u64.wrap c7 * 72057594037927936))

set_option maxRecDepth 100000 in
set_option maxHeartbeats 2000000 in
theorem word_any (w : World) (b o m : Nat) (h8 : 8 ≤ m) (c0 c1 c2 c3 c4 c5 c6 c7 : Int)
    (h0 : w.cell? ⟨b, o, none⟩ = some (.int .u8 c0)) (h1 : w.cell? ⟨b, o + 1, none⟩ = some (.int .u8 c1)) (h2 : w.cell? ⟨b, o + 2, none⟩ = some (.int .u8 c2)) (h3 : w.cell? ⟨b, o + 3, none⟩ = some (.int .u8 c3))
    (h4 : w.cell? ⟨b, o + 4, none⟩ = some (.int .u8 c4)) (h5 : w.cell? ⟨b, o + 5, none⟩ = some (.int .u8 c5)) (h6 : w.cell? ⟨b, o + 6, none⟩ = some (.int .u8 c6)) (h7 : w.cell? ⟨b, o + 7, none⟩ = some (.int .u8 c7)) :
    Calls Tryz.prog 133 #[.slice (some ⟨b, o, none⟩) m m] w fun e w' => e = .returned (.int .u64 (wdv c0 c1 c2 c3 c4 c5 c6 c7)) ∧ ∃ n, w' = w.drewN n := by
  have b0 : (0 : Int) < m := by omega
  have b1 : (1 : Int) < m := by omega
  have b2 : (2 : Int) < m := by omega
  have b3 : (3 : Int) < m := by omega
  have b4 : (4 : Int) < m := by omega
  have b5 : (5 : Int) < m := by omega
  have b6 : (6 : Int) < m := by omega
  have b7 : (7 : Int) < m := by omega
  go_enter Tryz.func133, Tryz.ntmps133
  go_wp2
  go_quiet (fail)
  go_wp2
  go_ret
  exact ⟨rfl, _, rfl⟩
theorem Byt.at {w wr : World} {b o m : Nat} (h : Byt w b o m) (hbel : Below w.heap.size w wr) (hb : b < w.heap.size) (i : Nat) (hi : i < m) : ∃ c : Int, 0 ≤ c ∧ c ≤ 255 ∧ wr.cell? ⟨b, o + i, none⟩ = some (.int .u8 c) := by
  obtain ⟨c, h1, h2, h3⟩ := h i hi
  exact ⟨c, h1, h2, (hbel.cell (p := ⟨b, o + i, none⟩) hb).trans h3⟩
theorem Byt.drop {w : World} {b o m : Nat} (h : Byt w b o m) (k : Nat) (hk : k ≤ m) : Byt w b (o + k) (m - k) := fun i hi => by
  rw [Nat.add_assoc]; exact h (k + i) (by omega)
/-- The word of eight bytes, whatever it is. -/
theorem Byt.word {w wr : World} {b o m : Nat} (h : Byt w b o m) (hbel : Below w.heap.size w wr) (hb : b < w.heap.size) (h8 : 8 ≤ m) :
    ∃ v : Int, (Calls Tryz.prog 133 #[.slice (some ⟨b, o, none⟩) m m] wr fun e w' => e = .returned (.int .u64 v) ∧ ∃ k, w' = wr.drewN k) ∧ ∀ n, Calls Tryz.prog 133 #[.slice (some ⟨b, o, none⟩) m m] (wr.drewN n) fun e w' => e = .returned (.int .u64 v) ∧ ∃ k, w' = (wr.drewN n).drewN k := by
  obtain ⟨c0, _, _, h0⟩ := h.at hbel hb 0 (by omega)
  obtain ⟨c1, _, _, h1⟩ := h.at hbel hb 1 (by omega)
  obtain ⟨c2, _, _, h2⟩ := h.at hbel hb 2 (by omega)
  obtain ⟨c3, _, _, h3⟩ := h.at hbel hb 3 (by omega)
  obtain ⟨c4, _, _, h4⟩ := h.at hbel hb 4 (by omega)
  obtain ⟨c5, _, _, h5⟩ := h.at hbel hb 5 (by omega)
  obtain ⟨c6, _, _, h6⟩ := h.at hbel hb 6 (by omega)
  obtain ⟨c7, _, _, h7⟩ := h.at hbel hb 7 (by omega)
  exact ⟨wdv c0 c1 c2 c3 c4 c5 c6 c7, word_any _ b o m h8 c0 c1 c2 c3 c4 c5 c6 c7 h0 h1 h2 h3 h4 h5 h6 h7, fun n => word_any _ b o m h8 c0 c1 c2 c3 c4 c5 c6 c7 h0 h1 h2 h3 h4 h5 h6 h7⟩
theorem below_drewN {B : Nat} {w wr : World} (h : Below B w wr) (n : Nat) : Below B w (wr.drewN n) := ⟨h.os, h.tape, h.output, h.size, h.block⟩

/-- The library's tables, as far as the look reads them. -/
structure Utab (w : World) : Prop where
  first : ∀ i : Nat, i < 256 → ∃ x : Int, (x = 0xF0 ∨ x = 0xF1 ∨ x = 0x02 ∨ x = 0x13 ∨ x = 0x03 ∨ x = 0x23 ∨ x = 0x34 ∨ x = 0x04 ∨ x = 0x44) ∧ w.cell? ⟨2, i, none⟩ = some (.int .u8 x)
  acc : ∀ i : Nat, i < 32 → ∃ x : Int, 0 ≤ x ∧ x ≤ 255 ∧ w.cell? ⟨3, i, none⟩ = some (.int .u8 x)
  lt : 3 < w.heap.size
end Go.Proofs.YtlglijnaeaonpaaGreatDoor.Css
