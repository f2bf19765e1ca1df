/- The reference's looks at one byte; its reader: where it stands in a text, what it peeks at. -/
import Derived.Test.YtlglijnaeaonpaaGreatDoorMb
set_option linter.all false
/- The reference's looks at one byte; its reader: where it stands in a text, what it peeks at. -/
namespace Go.Proofs.YtlglijnaeaonpaaGreatDoor.Css
open Go.RowKit

def isLt (c : Int) : Bool := (decide (97 ≤ c) && decide (c ≤ 122)) || (decide (65 ≤ c) && decide (c ≤ 90))
def isNL (c : Int) : Bool := c == 10 || c == 13 || c == 12
def isCt (c : Int) : Bool := decide (c ≤ 8) || c == 11 || (decide (14 ≤ c) && decide (c ≤ 31)) || c == 127
def hexV (c : Int) : Int := if isDg c then c - 48 else if decide (97 ≤ c) && decide (c ≤ 102) then c - 97 + 10 else if decide (65 ≤ c) && decide (c ≤ 70) then c - 65 + 10 else -1
def lowC (c : Int) : Int := if decide (65 ≤ c) && decide (c ≤ 90) then c + 32 else c
theorem ret_bool {a b : Bool} (h : a = b) : Ending.returned (.bool a) = .returned (.bool b) := by rw [h]

section
variable (c : Int) (w : World) (h0 : 0 ≤ c) (h1 : c ≤ 255)
include h0 h1
theorem digit_any : Calls Tryz.prog 137 #[.int .u8 c] w fun e w' => e = .returned (.bool (isDg c)) ∧ w = w' := by
  go_enter Tryz.func137, Tryz.ntmps137
  go_wp2
  all_goals (go_ret; exact ⟨ret_bool (by rw [Bool.eq_iff_iff]; simp [isDg]; omega), rfl⟩)
theorem letter_any : Calls Tryz.prog 52 #[.int .u8 c] w fun e w' => e = .returned (.bool (isLt c)) ∧ w = w' := by
  go_enter Tryz.func52, Tryz.ntmps52
  go_wp2
  all_goals (go_ret; exact ⟨ret_bool (by rw [Bool.eq_iff_iff]; simp [isLt]; omega), rfl⟩)
theorem newline_any : Calls Tryz.prog 134 #[.int .u8 c] w fun e w' => e = .returned (.bool (isNL c)) ∧ w = w' := by
  go_enter Tryz.func134, Tryz.ntmps134
  go_wp2
  all_goals (go_ret; exact ⟨ret_bool (by rw [Bool.eq_iff_iff]; simp [isNL] <;> omega), rfl⟩)
theorem blank_any : Calls Tryz.prog 105 #[.int .u8 c] w fun e w' => e = .returned (.bool (isWS c)) ∧ w = w' := by
  go_enter Tryz.func105, Tryz.ntmps105
  go_wp2
  all_goals (go_ret; exact ⟨ret_bool (by rw [Bool.eq_iff_iff]; simp [isWS]; omega), rfl⟩)
theorem control_any : Calls Tryz.prog 156 #[.int .u8 c] w fun e w' => e = .returned (.bool (isCt c)) ∧ w = w' := by
  go_enter Tryz.func156, Tryz.ntmps156
  go_wp2
  all_goals (go_ret; exact ⟨ret_bool (by rw [Bool.eq_iff_iff]; simp [isCt]; omega), rfl⟩)
theorem start_any : Calls Tryz.prog 32 #[.int .u8 c] w fun e w' => e = .returned (.bool (isSt c)) ∧ w = w' := by
  have hd : isSt c = (isLt c || c == 95 || decide (128 ≤ c)) := rfl
  have HD := Lib.hid hd
  clear hd
  cases hl : isLt c with
  | true =>
    have H := Lib.hid hl
    go_enter Tryz.func32, Tryz.ntmps32
    go_wp2_with (go_at_call 52; ((with_reducible refine (letter_any c _ h0 h1).mono ?_); rintro e w' ⟨rfl, rfl⟩))
    all_goals (go_ret; exact ⟨ret_bool (by rw [HD.out, H.out]; rfl), rfl⟩)
  | false =>
    have H := Lib.hid hl
    go_enter Tryz.func32, Tryz.ntmps32
    go_wp2_with (go_at_call 52; ((with_reducible refine (letter_any c _ h0 h1).mono ?_); rintro e w' ⟨rfl, rfl⟩))
    all_goals (go_ret; exact ⟨ret_bool (by rw [HD.out, H.out, Bool.eq_iff_iff]; simp <;> omega), rfl⟩)
theorem nameByte_any : Calls Tryz.prog 142 #[.int .u8 c] w fun e w' => e = .returned (.bool (isNm c)) ∧ w = w' := by
  cases hl : isSt c with
  | true =>
    have H := Lib.hid (isSt_nm hl)
    go_enter Tryz.func142, Tryz.ntmps142
    go_wp2_with (first | (go_at_call 32; ((with_reducible refine (start_any c _ h0 h1).mono ?_); rintro e w' ⟨rfl, rfl⟩)) | (go_at_call 137; ((with_reducible refine (digit_any c _ h0 h1).mono ?_); rintro e w' ⟨rfl, rfl⟩)))
    all_goals (go_ret; exact ⟨ret_bool H.out.symm, rfl⟩)
  | false =>
    have hn := isSt_no hl
    cases hg : isDg c with
    | true =>
      have hy := isDg_yes hg
      have H := Lib.hid (show isNm c = true from by simp [isNm]; omega)
      clear hn
      go_enter Tryz.func142, Tryz.ntmps142
      go_wp2_with (first | (go_at_call 32; ((with_reducible refine (start_any c _ h0 h1).mono ?_); rintro e w' ⟨rfl, rfl⟩)) | (go_at_call 137; ((with_reducible refine (digit_any c _ h0 h1).mono ?_); rintro e w' ⟨rfl, rfl⟩)))
      all_goals (go_ret; exact ⟨ret_bool H.out.symm, rfl⟩)
    | false =>
      have hy := isDg_no hg
      have H := Lib.hid (show isNm c = (c == 45) from by rw [Bool.eq_iff_iff]; simp [isNm]; omega)
      clear hn hy
      go_enter Tryz.func142, Tryz.ntmps142
      go_wp2_with (first | (go_at_call 32; ((with_reducible refine (start_any c _ h0 h1).mono ?_); rintro e w' ⟨rfl, rfl⟩)) | (go_at_call 137; ((with_reducible refine (digit_any c _ h0 h1).mono ?_); rintro e w' ⟨rfl, rfl⟩)))
      all_goals (go_ret; exact ⟨ret_bool H.out.symm, rfl⟩)
theorem hex_any : Calls Tryz.prog 111 #[.int .u8 c] w fun e w' => e = .returned (.int .i64 (hexV c)) ∧ w = w' := by
  cases hd : isDg c with
  | true =>
    have hy := isDg_yes hd
    have H := Lib.hid (show hexV c = c - 48 from by rw [hexV, if_pos hd])
    go_enter Tryz.func111, Tryz.ntmps111
    go_wp2_with (go_at_call 137; ((with_reducible refine (digit_any c _ h0 h1).mono ?_); rintro e w' ⟨rfl, rfl⟩))
    all_goals (go_ret; exact ⟨ret_int H.out.symm, rfl⟩)
  | false =>
    have H := Lib.hid (show hexV c = if decide (97 ≤ c) && decide (c ≤ 102) then c - 97 + 10 else if decide (65 ≤ c) && decide (c ≤ 70) then c - 65 + 10 else -1 from by rw [hexV, if_neg (by simp [hd])])
    go_enter Tryz.func111, Tryz.ntmps111
    go_wp2_with (go_at_call 137; ((with_reducible refine (digit_any c _ h0 h1).mono ?_); rintro e w' ⟨rfl, rfl⟩))
    all_goals (go_ret; refine ⟨ret_int ?_, rfl⟩; rw [H.out]; simp only [Bool.and_eq_true, decide_eq_true_eq]; split <;> (try split) <;> omega)
theorem lower1_any : Calls Tryz.prog 154 #[.int .u8 c] w fun e w' => e = .returned (.int .u8 (lowC c)) ∧ w = w' := by
  go_enter Tryz.func154, Tryz.ntmps154
  go_wp2
  all_goals (go_ret; refine ⟨ret_int ?_, rfl⟩; rw [lowC]; simp only [Bool.and_eq_true, decide_eq_true_eq]; split <;> omega)
end
theorem hexV_neg (c : Int) (h0 : 0 ≤ c) : decide (hexV c < 0) = !isHx c := by
  rw [Bool.eq_iff_iff]
  unfold hexV
  cases hd : isDg c with
  | true => have := isDg_yes hd; simp [isHx]; omega
  | false =>
    have := isDg_no hd
    simp only [Bool.false_eq_true, if_false, isHx, Bool.and_eq_true, decide_eq_true_eq, Bool.not_eq_true', Bool.or_eq_false_iff, Bool.and_eq_false_iff, decide_eq_false_iff_not]
    split
    · omega
    · split <;> omega

/-- What is fixed of a reader: its block, its text's place, capacity and bytes. -/
structure Rx where
  g : Nat
  b : Nat
  off : Nat
  cap : Nat
  t : List UInt8

/-- The reader stands at p, o tells whether something is left open; of what was there in w0 nothing but its own block has turned. -/
structure Rx.At (R : Rx) (w0 w : World) (p : Nat) (o : Bool) : Prop where
  rd : w.heap[R.g]? = some (.cells #[.slice (some ⟨R.b, R.off, none⟩) R.t.length R.cap, .int .i64 p, .bool o] 115 (0, 0))
  txt : Lies w R.b R.off R.t
  nb : R.b ≠ R.g
  hg : R.g < w0.heap.size
  hb : R.b < w0.heap.size
  pl : p ≤ R.t.length
  cp : R.t.length ≤ R.cap
  big : R.cap ≤ 140737488351232
  keep : Keep (· = R.g) w0 w

namespace Rx.At
variable {R : Rx} {w0 w : World} {p : Nat} {o : Bool}
theorem c0 (h : R.At w0 w p o) : w.cell? ⟨R.g, 0, none⟩ = some (.slice (some ⟨R.b, R.off, none⟩) R.t.length R.cap) := by rw [cell_at h.rd]; rfl
theorem c1 (h : R.At w0 w p o) : w.cell? ⟨R.g, 1, none⟩ = some (.int .i64 p) := by rw [cell_at h.rd]; rfl
theorem c2 (h : R.At w0 w p o) : w.cell? ⟨R.g, 2, none⟩ = some (.bool o) := by rw [cell_at h.rd]; rfl
theorem f (h : R.At w0 w p o) (i : Nat) : w.frozen? ⟨R.g, i, none⟩ = false := frozen_at h.rd i
theorem hb' (h : R.At w0 w p o) : R.b < w.heap.size := Nat.lt_of_lt_of_le h.hb h.keep.size
theorem hg' (h : R.At w0 w p o) : R.g < w.heap.size := Nat.lt_of_lt_of_le h.hg h.keep.size
theorem drew (h : R.At w0 w p o) : R.At w0 w.drew p o := { h with keep := h.keep.drew }
theorem drewN (h : R.At w0 w p o) (n : Nat) : R.At w0 (w.drewN n) p o := { h with keep := h.keep.drewN n }
theorem below (h : R.At w0 w p o) {w' : World} (hb : Below w.heap.size w w') : R.At w0 w' p o :=
  { h with
    rd := by rw [hb.block _ h.hg']; exact h.rd
    txt := fun i hi => (hb.cell (p := ⟨R.b, R.off + i, none⟩) h.hb').trans (h.txt i hi)
    keep := h.keep.trans ⟨hb.os, hb.tape, hb.output, hb.size, fun k hk _ => hb.block k hk⟩ }
theorem alloc (h : R.At w0 w p o) (x : Obj) : R.At w0 (w.alloc x) p o := h.below ((Below.refl _ _).alloc (Nat.le_refl _) x)
theorem set1 (h : R.At w0 w p o) (q : Nat) (hq : q ≤ R.t.length) : R.At w0 (w.setCell ⟨R.g, 1, none⟩ (.int .i64 q)) q o :=
  { h with
    rd := by rw [heap_set h.rd]; rfl
    txt := fun i hi => by rw [World.cell?_setCell_other]; exact h.txt i hi; intro e; exact h.nb (congrArg Addr.block e).symm
    pl := hq
    keep := h.keep.setCell (.inl rfl) _ }
theorem set2 (h : R.At w0 w p o) (o' : Bool) : R.At w0 (w.setCell ⟨R.g, 2, none⟩ (.bool o')) p o' :=
  { h with
    rd := by rw [heap_set h.rd]; rfl
    txt := fun i hi => by rw [World.cell?_setCell_other]; exact h.txt i hi; intro e; exact h.nb (congrArg Addr.block e).symm
    keep := h.keep.setCell (.inl rfl) _ }
theorem inc1 (h : R.At w0 w p o) (hq : p + 1 ≤ R.t.length) : R.At w0 (w.setCell ⟨R.g, 1, none⟩ (.int .i64 ((p : Int) + 1))) (p + 1) o := h.set1 (p + 1) hq
theorem inc2 (h : R.At w0 w p o) (hq : p + 2 ≤ R.t.length) : R.At w0 (w.setCell ⟨R.g, 1, none⟩ (.int .i64 ((p : Int) + 2))) (p + 2) o := h.set1 (p + 2) hq
theorem inc3 (h : R.At w0 w p o) (hq : p + 3 ≤ R.t.length) : R.At w0 (w.setCell ⟨R.g, 1, none⟩ (.int .i64 ((p : Int) + 3))) (p + 3) o := h.set1 (p + 3) hq
theorem inc4 (h : R.At w0 w p o) (hq : p + 4 ≤ R.t.length) : R.At w0 (w.setCell ⟨R.g, 1, none⟩ (.int .i64 ((p : Int) + 4))) (p + 4) o := h.set1 (p + 4) hq
end Rx.At

section
variable (R : Rx) (w0 w : World) (p : Nat) (o : Bool) (h : R.At w0 w p o)
include h
theorem rover_any : Calls Tryz.prog 67 #[.pointer (some ⟨R.g, 0, none⟩)] w fun e w' => e = .returned (.bool (decide (R.t.length ≤ p))) ∧ R.At w0 w' p o := by
  have r0 := h.c0
  have r1 := h.c1
  have hb := h.big
  have hcp := h.cp
  go_enter Tryz.func67, Tryz.ntmps67
  go_wp2
  go_quiet (fail)
  go_wp2
  go_ret
  exact ⟨ret_bool rfl, h.drewN _⟩
theorem rpeek_in (k : Nat) (hk : p + k < R.t.length) :
    Calls Tryz.prog 104 #[.pointer (some ⟨R.g, 0, none⟩), .int .i64 k] w fun e w' => e = .returned (.int .u8 (byte R.t (p + k))) ∧ R.At w0 w' p o := by
  have r0 := h.c0
  have r1 := h.c1
  have hb := h.big
  have hcp := h.cp
  have ht := h.txt (p + k) hk
  have s1 : IntKind.i64.wrap ((p : Int) + k) = (p : Int) + k := IntWalk.i64_in _ (by omega)
  have s2 : decide ((R.t.length : Int) ≤ (p : Int) + k) = false := decide_eq_false (by omega)
  have s3 : (0 : Int) ≤ (p : Int) + k := by omega
  have s4 : ((p : Int) + k).toNat = p + k := by omega
  have s5 : (p : Int) + k < R.t.length := by omega
  go_enter Tryz.func104, Tryz.ntmps104
  go_wp2
  go_quiet (fail)
  go_wp2
  go_quiet (fail)
  go_wp2
  go_ret
  exact ⟨rfl, (h.drewN _).drewN _⟩
theorem rpeek_out (k : Nat) (hk : R.t.length ≤ p + k) (hk1 : k ≤ 1000000) :
    Calls Tryz.prog 104 #[.pointer (some ⟨R.g, 0, none⟩), .int .i64 k] w fun e w' => e = .returned (.int .u8 0) ∧ R.At w0 w' p o := by
  have r0 := h.c0
  have r1 := h.c1
  have hb := h.big
  have hcp := h.cp
  have hpl := h.pl
  have s1 : IntKind.i64.wrap ((p : Int) + k) = (p : Int) + k := IntWalk.i64_in _ (by omega)
  have s2 : decide ((R.t.length : Int) ≤ (p : Int) + k) = true := decide_eq_true (by omega)
  go_enter Tryz.func104, Tryz.ntmps104
  go_wp2
  go_quiet (fail)
  go_wp2
  go_ret
  exact ⟨rfl, h.drewN _⟩
theorem rpeek (k : Nat) (hk1 : k ≤ 1000000) :
    Calls Tryz.prog 104 #[.pointer (some ⟨R.g, 0, none⟩), .int .i64 k] w fun e w' => e = .returned (.int .u8 (byte R.t (p + k))) ∧ R.At w0 w' p o := by
  rcases Nat.lt_or_ge (p + k) R.t.length with hk | hk
  · exact rpeek_in R w0 w p o h k hk
  · rw [byte_end _ _ hk]; exact rpeek_out R w0 w p o h k hk hk1
theorem rpeek0 : Calls Tryz.prog 104 #[.pointer (some ⟨R.g, 0, none⟩), .int .i64 0] w fun e w' => e = .returned (.int .u8 (byte R.t p)) ∧ R.At w0 w' p o := rpeek R w0 w p o h 0 (by omega)
theorem rpeek1 : Calls Tryz.prog 104 #[.pointer (some ⟨R.g, 0, none⟩), .int .i64 1] w fun e w' => e = .returned (.int .u8 (byte R.t (p + 1))) ∧ R.At w0 w' p o := rpeek R w0 w p o h 1 (by omega)
theorem rpeek2 : Calls Tryz.prog 104 #[.pointer (some ⟨R.g, 0, none⟩), .int .i64 2] w fun e w' => e = .returned (.int .u8 (byte R.t (p + 2))) ∧ R.At w0 w' p o := rpeek R w0 w p o h 2 (by omega)
theorem rpeek3 : Calls Tryz.prog 104 #[.pointer (some ⟨R.g, 0, none⟩), .int .i64 3] w fun e w' => e = .returned (.int .u8 (byte R.t (p + 3))) ∧ R.At w0 w' p o := rpeek R w0 w p o h 3 (by omega)
end
end Go.Proofs.YtlglijnaeaonpaaGreatDoor.Css
/- The reference's reader: escapes, names' beginnings, numbers' beginnings; runs of blanks and digits. -/
namespace Go.Proofs.YtlglijnaeaonpaaGreatDoor.Css
open Go.RowKit

/-- An escape begins at a place; one at the end is left open. -/
def escB (t : List UInt8) (i : Nat) : Bool := byte t i == 92 && decide (i + 1 < t.length) && !isNL (byte t (i + 1))
def escO (t : List UInt8) (i : Nat) : Bool := byte t i == 92 && decide (t.length ≤ i + 1)
theorem NoBs.escB {t : List UInt8} (h : NoBs t) (i : Nat) : escB t i = false := by rw [Css.escB, h.a i]; rfl
theorem NoBs.escO {t : List UInt8} (h : NoBs t) (i : Nat) : escO t i = false := by rw [Css.escO, h.a i]; rfl
theorem escB_lt {t : List UInt8} {i : Nat} (h : escB t i = true) : i + 1 < t.length := by
  simp only [escB, Bool.and_eq_true, decide_eq_true_eq] at h; exact h.1.2
/-- A name begins at a place; one that begins with two hyphens is left open. -/
def idB (t : List UInt8) (i : Nat) : Bool := if byte t i == 45 then isSt (byte t (i + 1)) || escB t (i + 1) else isSt (byte t i) || escB t i
def idO (t : List UInt8) (i : Nat) : Bool := if byte t i == 45 then byte t (i + 1) == 45 || (!isSt (byte t (i + 1)) && escO t (i + 1)) else !isSt (byte t i) && escO t i
/-- A number begins at a place. -/
def numB (t : List UInt8) (p : Nat) : Bool := (fracEnd t (signEnd t p)).isSome

section
variable (R : Rx) (w0 w : World) (p : Nat) (o : Bool) (h : R.At w0 w p o)
include h
theorem rpeekS (k : Nat) (hk1 : k ≤ 1000) :
    Calls Tryz.prog 104 #[.pointer (some ⟨R.g, 0, none⟩), .int .i64 ((k : Int) + 1)] w fun e w' => e = .returned (.int .u8 (byte R.t (p + k + 1))) ∧ R.At w0 w' p o :=
  rpeek R w0 w p o h (k + 1) (by omega)

set_option maxRecDepth 100000 in
set_option maxHeartbeats 1000000 in
theorem escapes_nat (k : Nat) (hk : k ≤ 100) :
    Calls Tryz.prog 135 #[.pointer (some ⟨R.g, 0, none⟩), .int .i64 k] w fun e w' => e = .returned (.bool (escB R.t (p + k))) ∧ R.At w0 w' p (o || escO R.t (p + k)) := by
  cases hc : (byte R.t (p + k) == 92) with
  | false =>
    have hc' : (byte R.t (p + k) != 92) = true := by rw [bne, hc]; rfl
    have H := Lib.hid (show escB R.t (p + k) = false from by rw [escB, hc]; rfl)
    have H2 := Lib.hid (show escO R.t (p + k) = false from by rw [escO, hc]; rfl)
    clear hc
    go_enter Tryz.func135, Tryz.ntmps135
    go_wp2_with (go_at_call 104; ((with_reducible refine (rpeek R w0 _ _ _ h k (by omega)).mono ?_); (rintro e w' ⟨rfl, hA⟩)))
    go_ret
    exact ⟨ret_bool H.out.symm, by rw [H2.out, Bool.or_false]; exact hA⟩
  | true =>
    have hlt := lt_of_byte (t := R.t) (p := p + k) (by rw [beq_iff_eq.1 hc]; decide)
    have hb := h.big
    have hcp := h.cp
    have hc' : (byte R.t (p + k) != 92) = false := by rw [bne, hc]; rfl
    have s1 : IntKind.i64.wrap ((p : Int) + k) = (p : Int) + k := IntWalk.i64_in _ (by omega)
    have s2 : IntKind.i64.wrap ((p : Int) + k + 1) = (p : Int) + k + 1 := IntWalk.i64_in _ (by omega)
    have hP := fun (w' : World) (hA : R.At w0 w' p o) => rpeekS R w0 w' p o hA k (by omega)
    by_cases hle : R.t.length ≤ p + k + 1
    · have s3 : decide ((R.t.length : Int) ≤ (p : Int) + k + 1) = true := decide_eq_true (by omega)
      have H := Lib.hid (show escB R.t (p + k) = false from by rw [escB, hc, decide_eq_false (by omega)]; rfl)
      have H2 := Lib.hid (show escO R.t (p + k) = true from by rw [escO, hc, decide_eq_true (by omega)]; rfl)
      clear hc
      go_enter Tryz.func135, Tryz.ntmps135
      go_wp2_with (go_at_call 104; ((with_reducible refine (rpeek R w0 _ _ _ h k (by omega)).mono ?_); (rintro e w' ⟨rfl, hA⟩); (have r0 := hA.c0; have r1 := hA.c1; have r2 := hA.c2)))
      go_quiet (fail)
      have hA2 := hA.drewN nq
      have rf := hA2.f
      have r2' := hA2.c2
      go_wp2
      go_ret
      exact ⟨ret_bool H.out.symm, by rw [H2.out, Bool.or_true]; exact hA2.set2 true⟩
    · have s3 : decide ((R.t.length : Int) ≤ (p : Int) + k + 1) = false := decide_eq_false (by omega)
      have H := Lib.hid (show escB R.t (p + k) = !isNL (byte R.t (p + k + 1)) from by rw [escB, hc, decide_eq_true (by omega)]; rfl)
      have H2 := Lib.hid (show escO R.t (p + k) = false from by rw [escO, hc, decide_eq_false (by omega)]; rfl)
      clear hc
      go_enter Tryz.func135, Tryz.ntmps135
      go_wp2_with (go_at_call 104; ((with_reducible refine (rpeek R w0 _ _ _ h k (by omega)).mono ?_); (rintro e w' ⟨rfl, hA⟩); (have r0 := hA.c0; have r1 := hA.c1; have r2 := hA.c2)))
      go_quiet (fail)
      have hA2 := hA.drewN nq
      go_wp2_with (first | (go_at_call 104; ((with_reducible refine (hP _ hA2).mono ?_); (rintro e w'' ⟨rfl, hA3⟩))) | (go_at_call 134; ((with_reducible refine ((newline_any _ _ (byte_lo _ _) (byte_hi _ _))).mono ?_); (rintro e w' ⟨rfl, rfl⟩))))
      go_ret
      exact ⟨ret_bool H.out.symm, by rw [H2.out, Bool.or_false]; exact hA3⟩
theorem escapesS (k : Nat) (hk : k ≤ 90) :
    Calls Tryz.prog 135 #[.pointer (some ⟨R.g, 0, none⟩), .int .i64 ((k : Int) + 1)] w fun e w' => e = .returned (.bool (escB R.t (p + k + 1))) ∧ R.At w0 w' p (o || escO R.t (p + k + 1)) :=
  escapes_nat R w0 w p o h (k + 1) (by omega)
theorem escapes0 : Calls Tryz.prog 135 #[.pointer (some ⟨R.g, 0, none⟩), .int .i64 0] w fun e w' => e = .returned (.bool (escB R.t p)) ∧ R.At w0 w' p (o || escO R.t p) := escapes_nat R w0 w p o h 0 (by omega)
theorem escapes1 : Calls Tryz.prog 135 #[.pointer (some ⟨R.g, 0, none⟩), .int .i64 1] w fun e w' => e = .returned (.bool (escB R.t (p + 1))) ∧ R.At w0 w' p (o || escO R.t (p + 1)) := escapes_nat R w0 w p o h 1 (by omega)

set_option maxRecDepth 100000 in
set_option maxHeartbeats 1000000 in
theorem ident_nat (k : Nat) (hk : k ≤ 50) :
    Calls Tryz.prog 113 #[.pointer (some ⟨R.g, 0, none⟩), .int .i64 k] w fun e w' => e = .returned (.bool (idB R.t (p + k))) ∧ R.At w0 w' p (o || idO R.t (p + k)) := by
  have hP := fun (w' : World) (o' : Bool) (hA : R.At w0 w' p o') => rpeekS R w0 w' p o' hA k (by omega)
  have hE := fun (w' : World) (o' : Bool) (hA : R.At w0 w' p o') => escapesS R w0 w' p o' hA k (by omega)
  have hE0 := fun (w' : World) (o' : Bool) (hA : R.At w0 w' p o') => escapes_nat R w0 w' p o' hA k (by omega)
  cases hc : (byte R.t (p + k) == 45) with
  | true =>
    cases hd : (byte R.t (p + k + 1) == 45) with
    | true =>
      have hs : isSt (byte R.t (p + k + 1)) = false := by rw [beq_iff_eq.1 hd]; decide
      have he : escB R.t (p + k + 1) = false := by rw [escB, beq_iff_eq.1 hd]; rfl
      have he2 : escO R.t (p + k + 1) = false := by rw [escO, beq_iff_eq.1 hd]; rfl
      have H := Lib.hid (show idB R.t (p + k) = false from by rw [idB, hc, if_pos rfl, hs, he]; rfl)
      have H2 := Lib.hid (show idO R.t (p + k) = true from by rw [idO, hc, if_pos rfl, hd]; rfl)
      have HX := Lib.hid (show _ ∧ _ from ⟨he, he2⟩)
      clear he he2
      go_enter Tryz.func113, Tryz.ntmps113
      go_wp2_with (first | (go_at_call 104; ((with_reducible refine (rpeek R w0 _ _ _ h k (by omega)).mono ?_); (rintro e w' ⟨rfl, hA⟩))) | (go_at_call 104; ((with_reducible refine (hP _ _ (by first | exact Rx.At.set2 (by assumption) _ | assumption)).mono ?_); (rintro e w'' ⟨rfl, hA⟩); have rf := hA.f; have r2 := hA.c2)) | (go_at_call 32; ((with_reducible refine ((start_any _ _ (byte_lo _ _) (byte_hi _ _))).mono ?_); (rintro e w' ⟨rfl, rfl⟩))) | (go_at_call 135; ((with_reducible refine (hE _ _ (by assumption)).mono ?_); (rintro e w'' ⟨rfl, hA⟩))))
      go_ret
      refine ⟨ret_bool (by rw [HX.out.1, H.out]), ?_⟩
      rw [HX.out.2, Bool.or_false] at hA
      rw [H2.out, Bool.or_true]
      exact hA
    | false =>
      cases hs : isSt (byte R.t (p + k + 1)) with
      | true =>
        have H := Lib.hid (show idB R.t (p + k) = true from by rw [idB, hc, if_pos rfl, hs]; rfl)
        have H2 := Lib.hid (show idO R.t (p + k) = false from by rw [idO, hc, if_pos rfl, hd, hs]; rfl)
        go_enter Tryz.func113, Tryz.ntmps113
        go_wp2_with (first | (go_at_call 104; ((with_reducible refine (rpeek R w0 _ _ _ h k (by omega)).mono ?_); (rintro e w' ⟨rfl, hA⟩))) | (go_at_call 104; ((with_reducible refine (hP _ _ (by assumption)).mono ?_); (rintro e w'' ⟨rfl, hA⟩))) | (go_at_call 32; ((with_reducible refine ((start_any _ _ (byte_lo _ _) (byte_hi _ _))).mono ?_); (rintro e w' ⟨rfl, rfl⟩))))
        go_ret
        exact ⟨ret_bool H.out.symm, by rw [H2.out, Bool.or_false]; exact hA⟩
      | false =>
        have H := Lib.hid (show idB R.t (p + k) = escB R.t (p + k + 1) from by rw [idB, hc, if_pos rfl, hs]; rfl)
        have H2 := Lib.hid (show idO R.t (p + k) = escO R.t (p + k + 1) from by rw [idO, hc, if_pos rfl, hd, hs]; rfl)
        go_enter Tryz.func113, Tryz.ntmps113
        go_wp2_with (first | (go_at_call 104; ((with_reducible refine (rpeek R w0 _ _ _ h k (by omega)).mono ?_); (rintro e w' ⟨rfl, hA⟩))) | (go_at_call 104; ((with_reducible refine (hP _ _ (by assumption)).mono ?_); (rintro e w'' ⟨rfl, hA⟩))) | (go_at_call 32; ((with_reducible refine ((start_any _ _ (byte_lo _ _) (byte_hi _ _))).mono ?_); (rintro e w' ⟨rfl, rfl⟩))) | (go_at_call 135; ((with_reducible refine (hE _ _ (by assumption)).mono ?_); (rintro e w'' ⟨rfl, hA⟩))))
        go_ret
        exact ⟨ret_bool H.out.symm, by rw [H2.out]; exact hA⟩
  | false =>
    cases hs : isSt (byte R.t (p + k)) with
    | true =>
      have H := Lib.hid (show idB R.t (p + k) = true from by rw [idB, hc, if_neg Bool.false_ne_true, hs]; rfl)
      have H2 := Lib.hid (show idO R.t (p + k) = false from by rw [idO, hc, if_neg Bool.false_ne_true, hs]; rfl)
      go_enter Tryz.func113, Tryz.ntmps113
      go_wp2_with (first | (go_at_call 104; ((with_reducible refine (rpeek R w0 _ _ _ h k (by omega)).mono ?_); (rintro e w' ⟨rfl, hA⟩))) | (go_at_call 32; ((with_reducible refine ((start_any _ _ (byte_lo _ _) (byte_hi _ _))).mono ?_); (rintro e w' ⟨rfl, rfl⟩))))
      go_ret
      exact ⟨ret_bool H.out.symm, by rw [H2.out, Bool.or_false]; exact hA⟩
    | false =>
      have H := Lib.hid (show idB R.t (p + k) = escB R.t (p + k) from by rw [idB, hc, if_neg Bool.false_ne_true, hs]; rfl)
      have H2 := Lib.hid (show idO R.t (p + k) = escO R.t (p + k) from by rw [idO, hc, if_neg Bool.false_ne_true, hs]; rfl)
      go_enter Tryz.func113, Tryz.ntmps113
      go_wp2_with (first | (go_at_call 104; ((with_reducible refine (rpeek R w0 _ _ _ h k (by omega)).mono ?_); (rintro e w' ⟨rfl, hA⟩))) | (go_at_call 32; ((with_reducible refine ((start_any _ _ (byte_lo _ _) (byte_hi _ _))).mono ?_); (rintro e w' ⟨rfl, rfl⟩))) | (go_at_call 135; ((with_reducible refine (hE0 _ _ (by assumption)).mono ?_); (rintro e w'' ⟨rfl, hA⟩))))
      go_ret
      exact ⟨ret_bool H.out.symm, by rw [H2.out]; exact hA⟩
theorem ident0 : Calls Tryz.prog 113 #[.pointer (some ⟨R.g, 0, none⟩), .int .i64 0] w fun e w' => e = .returned (.bool (idB R.t p)) ∧ R.At w0 w' p (o || idO R.t p) := ident_nat R w0 w p o h 0 (by omega)
theorem ident1 : Calls Tryz.prog 113 #[.pointer (some ⟨R.g, 0, none⟩), .int .i64 1] w fun e w' => e = .returned (.bool (idB R.t (p + 1))) ∧ R.At w0 w' p (o || idO R.t (p + 1)) := ident_nat R w0 w p o h 1 (by omega)

set_option maxRecDepth 100000 in
set_option maxHeartbeats 1000000 in
theorem numbers_any : Calls Tryz.prog 109 #[.pointer (some ⟨R.g, 0, none⟩)] w fun e w' => e = .returned (.bool (numB R.t p)) ∧ R.At w0 w' p o := by
  cases h43 : (byte R.t p == 43) <;> cases h45 : (byte R.t p == 45)
  case true.true => rw [beq_iff_eq.1 h43] at h45; exact absurd h45 (by decide)
  case false.false =>
    have hsg : signEnd R.t p = p := by rw [signEnd, h43, h45]; rfl
    cases hd : isDg (byte R.t p) with
    | true =>
      have H := Lib.hid (show numB R.t p = true from by rw [numB, hsg, fracEnd, hd, if_pos rfl]; split <;> rfl)
      clear hsg
      go_enter Tryz.func109, Tryz.ntmps109
      go_wp2_with (first | (go_at_call 104; ((with_reducible refine ((rpeek0 R w0 _ _ _ (by first | exact Rx.At.inc1 (by assumption) (by omega) | exact Rx.At.inc2 (by assumption) (by omega) | exact Rx.At.set2 (by assumption) _ | assumption))).mono ?_); (rintro e w' ⟨rfl, hA⟩); (have r0 := Rx.At.c0 hA; have r1 := Rx.At.c1 hA; have r2 := Rx.At.c2 hA; have rf := Rx.At.f hA))) | (go_at_call 104; ((with_reducible refine ((rpeek1 R w0 _ _ _ (by first | exact Rx.At.inc1 (by assumption) (by omega) | exact Rx.At.inc2 (by assumption) (by omega) | exact Rx.At.set2 (by assumption) _ | assumption))).mono ?_); (rintro e w' ⟨rfl, hA⟩); (have r0 := Rx.At.c0 hA; have r1 := Rx.At.c1 hA; have r2 := Rx.At.c2 hA; have rf := Rx.At.f hA))) | (go_at_call 137; ((with_reducible refine ((digit_any _ _ (byte_lo _ _) (byte_hi _ _))).mono ?_); (rintro e w' ⟨rfl, rfl⟩))))
      go_ret
      exact ⟨ret_bool H.out.symm, by assumption⟩
    | false =>
      cases h46 : (byte R.t p == 46) with
      | false =>
        have H := Lib.hid (show numB R.t p = false from by rw [numB, hsg, fracEnd, hd, if_neg Bool.false_ne_true, h46]; rfl)
        clear hsg
        go_enter Tryz.func109, Tryz.ntmps109
        go_wp2_with (first | (go_at_call 104; ((with_reducible refine ((rpeek0 R w0 _ _ _ (by first | exact Rx.At.inc1 (by assumption) (by omega) | exact Rx.At.inc2 (by assumption) (by omega) | exact Rx.At.set2 (by assumption) _ | assumption))).mono ?_); (rintro e w' ⟨rfl, hA⟩); (have r0 := Rx.At.c0 hA; have r1 := Rx.At.c1 hA; have r2 := Rx.At.c2 hA; have rf := Rx.At.f hA))) | (go_at_call 104; ((with_reducible refine ((rpeek1 R w0 _ _ _ (by first | exact Rx.At.inc1 (by assumption) (by omega) | exact Rx.At.inc2 (by assumption) (by omega) | exact Rx.At.set2 (by assumption) _ | assumption))).mono ?_); (rintro e w' ⟨rfl, hA⟩); (have r0 := Rx.At.c0 hA; have r1 := Rx.At.c1 hA; have r2 := Rx.At.c2 hA; have rf := Rx.At.f hA))) | (go_at_call 137; ((with_reducible refine ((digit_any _ _ (byte_lo _ _) (byte_hi _ _))).mono ?_); (rintro e w' ⟨rfl, rfl⟩))))
        go_ret
        exact ⟨ret_bool H.out.symm, by assumption⟩
      | true =>
        have H := Lib.hid (show numB R.t p = isDg (byte R.t (p + 1)) from by rw [numB, hsg, fracEnd, hd, if_neg Bool.false_ne_true, h46, Bool.true_and]; cases isDg (byte R.t (p + 1)) <;> rfl)
        clear hsg
        go_enter Tryz.func109, Tryz.ntmps109
        go_wp2_with (first | (go_at_call 104; ((with_reducible refine ((rpeek0 R w0 _ _ _ (by first | exact Rx.At.inc1 (by assumption) (by omega) | exact Rx.At.inc2 (by assumption) (by omega) | exact Rx.At.set2 (by assumption) _ | assumption))).mono ?_); (rintro e w' ⟨rfl, hA⟩); (have r0 := Rx.At.c0 hA; have r1 := Rx.At.c1 hA; have r2 := Rx.At.c2 hA; have rf := Rx.At.f hA))) | (go_at_call 104; ((with_reducible refine ((rpeek1 R w0 _ _ _ (by first | exact Rx.At.inc1 (by assumption) (by omega) | exact Rx.At.inc2 (by assumption) (by omega) | exact Rx.At.set2 (by assumption) _ | assumption))).mono ?_); (rintro e w' ⟨rfl, hA⟩); (have r0 := Rx.At.c0 hA; have r1 := Rx.At.c1 hA; have r2 := Rx.At.c2 hA; have rf := Rx.At.f hA))) | (go_at_call 137; ((with_reducible refine ((digit_any _ _ (byte_lo _ _) (byte_hi _ _))).mono ?_); (rintro e w' ⟨rfl, rfl⟩))))
        go_ret
        exact ⟨ret_bool H.out.symm, by assumption⟩
  all_goals
    have hsg : signEnd R.t p = p + 1 := by rw [signEnd, h43, h45]; rfl
    cases hd : isDg (byte R.t (p + 1)) with
    | true =>
      have H := Lib.hid (show numB R.t p = true from by rw [numB, hsg, fracEnd, hd, if_pos rfl]; split <;> rfl)
      clear hsg
      go_enter Tryz.func109, Tryz.ntmps109
      go_wp2_with (first | (go_at_call 104; ((with_reducible refine ((rpeek0 R w0 _ _ _ (by first | exact Rx.At.inc1 (by assumption) (by omega) | exact Rx.At.inc2 (by assumption) (by omega) | exact Rx.At.set2 (by assumption) _ | assumption))).mono ?_); (rintro e w' ⟨rfl, hA⟩); (have r0 := Rx.At.c0 hA; have r1 := Rx.At.c1 hA; have r2 := Rx.At.c2 hA; have rf := Rx.At.f hA))) | (go_at_call 104; ((with_reducible refine ((rpeek1 R w0 _ _ _ (by first | exact Rx.At.inc1 (by assumption) (by omega) | exact Rx.At.inc2 (by assumption) (by omega) | exact Rx.At.set2 (by assumption) _ | assumption))).mono ?_); (rintro e w' ⟨rfl, hA⟩); (have r0 := Rx.At.c0 hA; have r1 := Rx.At.c1 hA; have r2 := Rx.At.c2 hA; have rf := Rx.At.f hA))) | (go_at_call 104; ((with_reducible refine ((rpeek2 R w0 _ _ _ (by first | exact Rx.At.inc1 (by assumption) (by omega) | exact Rx.At.inc2 (by assumption) (by omega) | exact Rx.At.set2 (by assumption) _ | assumption))).mono ?_); (rintro e w' ⟨rfl, hA⟩); (have r0 := Rx.At.c0 hA; have r1 := Rx.At.c1 hA; have r2 := Rx.At.c2 hA; have rf := Rx.At.f hA))) | (go_at_call 137; ((with_reducible refine ((digit_any _ _ (byte_lo _ _) (byte_hi _ _))).mono ?_); (rintro e w' ⟨rfl, rfl⟩))))
      go_ret
      exact ⟨ret_bool H.out.symm, by assumption⟩
    | false =>
      cases h46 : (byte R.t (p + 1) == 46) with
      | false =>
        have H := Lib.hid (show numB R.t p = false from by rw [numB, hsg, fracEnd, hd, if_neg Bool.false_ne_true, h46]; rfl)
        clear hsg
        go_enter Tryz.func109, Tryz.ntmps109
        go_wp2_with (first | (go_at_call 104; ((with_reducible refine ((rpeek0 R w0 _ _ _ (by first | exact Rx.At.inc1 (by assumption) (by omega) | exact Rx.At.inc2 (by assumption) (by omega) | exact Rx.At.set2 (by assumption) _ | assumption))).mono ?_); (rintro e w' ⟨rfl, hA⟩); (have r0 := Rx.At.c0 hA; have r1 := Rx.At.c1 hA; have r2 := Rx.At.c2 hA; have rf := Rx.At.f hA))) | (go_at_call 104; ((with_reducible refine ((rpeek1 R w0 _ _ _ (by first | exact Rx.At.inc1 (by assumption) (by omega) | exact Rx.At.inc2 (by assumption) (by omega) | exact Rx.At.set2 (by assumption) _ | assumption))).mono ?_); (rintro e w' ⟨rfl, hA⟩); (have r0 := Rx.At.c0 hA; have r1 := Rx.At.c1 hA; have r2 := Rx.At.c2 hA; have rf := Rx.At.f hA))) | (go_at_call 104; ((with_reducible refine ((rpeek2 R w0 _ _ _ (by first | exact Rx.At.inc1 (by assumption) (by omega) | exact Rx.At.inc2 (by assumption) (by omega) | exact Rx.At.set2 (by assumption) _ | assumption))).mono ?_); (rintro e w' ⟨rfl, hA⟩); (have r0 := Rx.At.c0 hA; have r1 := Rx.At.c1 hA; have r2 := Rx.At.c2 hA; have rf := Rx.At.f hA))) | (go_at_call 137; ((with_reducible refine ((digit_any _ _ (byte_lo _ _) (byte_hi _ _))).mono ?_); (rintro e w' ⟨rfl, rfl⟩))))
        go_ret
        exact ⟨ret_bool H.out.symm, by assumption⟩
      | true =>
        have H := Lib.hid (show numB R.t p = isDg (byte R.t (p + 1 + 1)) from by rw [numB, hsg, fracEnd, hd, if_neg Bool.false_ne_true, h46, Bool.true_and]; cases isDg (byte R.t (p + 1 + 1)) <;> rfl)
        clear hsg
        go_enter Tryz.func109, Tryz.ntmps109
        go_wp2_with (first | (go_at_call 104; ((with_reducible refine ((rpeek0 R w0 _ _ _ (by first | exact Rx.At.inc1 (by assumption) (by omega) | exact Rx.At.inc2 (by assumption) (by omega) | exact Rx.At.set2 (by assumption) _ | assumption))).mono ?_); (rintro e w' ⟨rfl, hA⟩); (have r0 := Rx.At.c0 hA; have r1 := Rx.At.c1 hA; have r2 := Rx.At.c2 hA; have rf := Rx.At.f hA))) | (go_at_call 104; ((with_reducible refine ((rpeek1 R w0 _ _ _ (by first | exact Rx.At.inc1 (by assumption) (by omega) | exact Rx.At.inc2 (by assumption) (by omega) | exact Rx.At.set2 (by assumption) _ | assumption))).mono ?_); (rintro e w' ⟨rfl, hA⟩); (have r0 := Rx.At.c0 hA; have r1 := Rx.At.c1 hA; have r2 := Rx.At.c2 hA; have rf := Rx.At.f hA))) | (go_at_call 104; ((with_reducible refine ((rpeek2 R w0 _ _ _ (by first | exact Rx.At.inc1 (by assumption) (by omega) | exact Rx.At.inc2 (by assumption) (by omega) | exact Rx.At.set2 (by assumption) _ | assumption))).mono ?_); (rintro e w' ⟨rfl, hA⟩); (have r0 := Rx.At.c0 hA; have r1 := Rx.At.c1 hA; have r2 := Rx.At.c2 hA; have rf := Rx.At.f hA))) | (go_at_call 137; ((with_reducible refine ((digit_any _ _ (byte_lo _ _) (byte_hi _ _))).mono ?_); (rintro e w' ⟨rfl, rfl⟩))))
        go_ret
        exact ⟨ret_bool H.out.symm, by assumption⟩
end
end Go.Proofs.YtlglijnaeaonpaaGreatDoor.Css
/- The reference's reader: runs of blanks and digits, escapes, names. -/
namespace Go.Proofs.YtlglijnaeaonpaaGreatDoor.Css
open Go.RowKit

theorem hexV_pos (c : Int) (h0 : 0 ≤ c) : decide (0 ≤ hexV c) = isHx c := by
  have := hexV_neg c h0
  cases hx : isHx c with
  | true => rw [hx] at this; have := of_decide_eq_false this; exact decide_eq_true (by omega)
  | false => rw [hx] at this; have := of_decide_eq_true this; exact decide_eq_false (by omega)

section
variable (R : Rx) (w0 w : World) (p : Nat) (o : Bool) (h : R.At w0 w p o)
include h
set_option maxRecDepth 100000 in
set_option maxHeartbeats 1000000 in
theorem blanks_any : Calls Tryz.prog 106 #[.pointer (some ⟨R.g, 0, none⟩)] w fun e w' => e = .returned (.tuple #[]) ∧ R.At w0 w' (spanEnd R.t isWS p) o := by
  have hpl := h.pl
  have hbig := h.big
  have hcp := h.cp
  go_enter Tryz.func106, Tryz.ntmps106
  go_wp2
  go_loopg [] (R.t.length - p) (fun k wr => ∃ q, p ≤ q ∧ q ≤ R.t.length ∧ k = R.t.length - q ∧ R.At w0 wr q o ∧ spanEnd R.t isWS q = spanEnd R.t isWS p)
  case atStart => exact ⟨p, Nat.le_refl _, hpl, rfl, h, rfl⟩
  case round =>
    obtain ⟨q, hq1, hq2, hk, hA, hE⟩ := hrel
    have HE := Lib.hid hE
    clear hE
    cases hq : isWS (byte R.t q) with
    | true =>
      have hlq := lt_of_class (f := isWS) rfl hq
      have HS := Lib.hid (spanEnd_step (f := isWS) rfl hq)
      go_wp2_with (first | (go_at_call 104; ((with_reducible refine ((rpeek0 R w0 _ _ _ (by first | exact Rx.At.inc1 (by assumption) (by omega) | exact Rx.At.inc2 (by assumption) (by omega) | exact Rx.At.set2 (by assumption) _ | assumption))).mono ?_); (rintro e w' ⟨rfl, hA⟩); (have r0 := Rx.At.c0 hA; have r1 := Rx.At.c1 hA; have r2 := Rx.At.c2 hA; have rf := Rx.At.f hA))) | (go_at_call 105; ((with_reducible refine ((blank_any _ _ (byte_lo _ _) (byte_hi _ _))).mono ?_); (rintro e w' ⟨rfl, rfl⟩))))
      go_roundg (R.t.length - (q + 1))
      case measure => omega
      case rel => exact ⟨q + 1, by omega, by omega, rfl, Rx.At.inc1 (by assumption) (by omega), HS.out.symm.trans HE.out⟩
    | false =>
      have HS := Lib.hid (spanEnd_stop (f := isWS) hq)
      go_wp2_with (first | (go_at_call 104; ((with_reducible refine ((rpeek0 R w0 _ _ _ (by first | exact Rx.At.inc1 (by assumption) (by omega) | exact Rx.At.inc2 (by assumption) (by omega) | exact Rx.At.set2 (by assumption) _ | assumption))).mono ?_); (rintro e w' ⟨rfl, hA⟩); (have r0 := Rx.At.c0 hA; have r1 := Rx.At.c1 hA; have r2 := Rx.At.c2 hA; have rf := Rx.At.f hA))) | (go_at_call 105; ((with_reducible refine ((blank_any _ _ (byte_lo _ _) (byte_hi _ _))).mono ?_); (rintro e w' ⟨rfl, rfl⟩))))
      go_end0
      refine ⟨rfl, ?_⟩
      rw [← HE.out, HS.out]; assumption
set_option maxRecDepth 100000 in
set_option maxHeartbeats 1000000 in
theorem digits_any : Calls Tryz.prog 138 #[.pointer (some ⟨R.g, 0, none⟩)] w fun e w' => e = .returned (.tuple #[]) ∧ R.At w0 w' (spanEnd R.t isDg p) o := by
  have hpl := h.pl
  have hbig := h.big
  have hcp := h.cp
  go_enter Tryz.func138, Tryz.ntmps138
  go_wp2
  go_loopg [] (R.t.length - p) (fun k wr => ∃ q, p ≤ q ∧ q ≤ R.t.length ∧ k = R.t.length - q ∧ R.At w0 wr q o ∧ spanEnd R.t isDg q = spanEnd R.t isDg p)
  case atStart => exact ⟨p, Nat.le_refl _, hpl, rfl, h, rfl⟩
  case round =>
    obtain ⟨q, hq1, hq2, hk, hA, hE⟩ := hrel
    have HE := Lib.hid hE
    clear hE
    cases hq : isDg (byte R.t q) with
    | true =>
      have hlq := lt_of_class (f := isDg) rfl hq
      have HS := Lib.hid (spanEnd_step (f := isDg) rfl hq)
      go_wp2_with (first | (go_at_call 104; ((with_reducible refine ((rpeek0 R w0 _ _ _ (by first | exact Rx.At.inc1 (by assumption) (by omega) | exact Rx.At.inc2 (by assumption) (by omega) | exact Rx.At.set2 (by assumption) _ | assumption))).mono ?_); (rintro e w' ⟨rfl, hA⟩); (have r0 := Rx.At.c0 hA; have r1 := Rx.At.c1 hA; have r2 := Rx.At.c2 hA; have rf := Rx.At.f hA))) | (go_at_call 137; ((with_reducible refine ((digit_any _ _ (byte_lo _ _) (byte_hi _ _))).mono ?_); (rintro e w' ⟨rfl, rfl⟩))))
      go_roundg (R.t.length - (q + 1))
      case measure => omega
      case rel => exact ⟨q + 1, by omega, by omega, rfl, Rx.At.inc1 (by assumption) (by omega), HS.out.symm.trans HE.out⟩
    | false =>
      have HS := Lib.hid (spanEnd_stop (f := isDg) hq)
      go_wp2_with (first | (go_at_call 104; ((with_reducible refine ((rpeek0 R w0 _ _ _ (by first | exact Rx.At.inc1 (by assumption) (by omega) | exact Rx.At.inc2 (by assumption) (by omega) | exact Rx.At.set2 (by assumption) _ | assumption))).mono ?_); (rintro e w' ⟨rfl, hA⟩); (have r0 := Rx.At.c0 hA; have r1 := Rx.At.c1 hA; have r2 := Rx.At.c2 hA; have rf := Rx.At.f hA))) | (go_at_call 137; ((with_reducible refine ((digit_any _ _ (byte_lo _ _) (byte_hi _ _))).mono ?_); (rintro e w' ⟨rfl, rfl⟩))))
      go_end0
      refine ⟨rfl, ?_⟩
      rw [← HE.out, HS.out]; assumption

/-- The reader has gone on: to some place from lo on. -/
def RGo (R : Rx) (w0 : World) (lo : Nat) (o : Bool) (e : Ending) (w' : World) : Prop :=
  e = .returned (.tuple #[]) ∧ ∃ q o', R.At w0 w' q o' ∧ lo ≤ q ∧ (o = true → o' = true)

set_option maxRecDepth 100000 in
set_option maxHeartbeats 2000000 in
theorem escape_any (he : escB R.t p = true) : Calls Tryz.prog 136 #[.pointer (some ⟨R.g, 0, none⟩)] w (RGo R w0 (p + 1) o) := by
  have hlt := escB_lt he
  have hbig := h.big
  have hcp := h.cp
  have r1 := h.c1
  have rf := h.f
  have hA0 := h.inc1 (by omega)
  clear he
  cases hx : isHx (byte R.t (p + 1)) with
  | false =>
    have hv : decide (hexV (byte R.t (p + 1)) < 0) = true := by rw [hexV_neg _ (byte_lo _ _), hx]; rfl
    go_enter Tryz.func136, Tryz.ntmps136
    go_wp2_with (first | (go_at_call 104; ((with_reducible refine ((rpeek0 R w0 _ _ _ (by first | exact Rx.At.inc1 (by assumption) (by omega) | exact Rx.At.inc2 (by assumption) (by omega) | exact Rx.At.set2 (by assumption) _ | assumption))).mono ?_); (rintro e w' ⟨rfl, hA⟩); (have r0 := Rx.At.c0 hA; have r1 := Rx.At.c1 hA; have r2 := Rx.At.c2 hA; have rf := Rx.At.f hA))) | (go_at_call 111; ((with_reducible refine ((hex_any _ _ (byte_lo _ _) (byte_hi _ _))).mono ?_); (rintro e w' ⟨rfl, rfl⟩))))
    go_loopg [] (R.t.length - (p + 2)) (fun k wr => ∃ q, p + 1 ≤ q ∧ q ≤ R.t.length ∧ k = R.t.length - q ∧ R.At w0 wr q o)
    case atStart => exact ⟨p + 2, by omega, by omega, by omega, Rx.At.inc1 (p := p + 1) (by assumption) (by omega)⟩
    case round =>
      obtain ⟨q, hq1, hq2, hk, hA⟩ := hrel
      by_cases hov : R.t.length ≤ q
      · go_wp2_with (first | (go_at_call 67; ((with_reducible refine ((rover_any R w0 _ _ _ (by first | exact Rx.At.inc1 (by assumption) (by omega) | exact Rx.At.inc2 (by assumption) (by omega) | exact Rx.At.set2 (by assumption) _ | assumption))).mono ?_); (rintro e w' ⟨rfl, hA⟩); (have r0 := Rx.At.c0 hA; have r1 := Rx.At.c1 hA; have r2 := Rx.At.c2 hA; have rf := Rx.At.f hA))) | (go_at_call 104; ((with_reducible refine ((rpeek0 R w0 _ _ _ (by first | exact Rx.At.inc1 (by assumption) (by omega) | exact Rx.At.inc2 (by assumption) (by omega) | exact Rx.At.set2 (by assumption) _ | assumption))).mono ?_); (rintro e w' ⟨rfl, hA⟩); (have r0 := Rx.At.c0 hA; have r1 := Rx.At.c1 hA; have r2 := Rx.At.c2 hA; have rf := Rx.At.f hA))))
        go_end0
        exact ⟨rfl, q, o, by assumption, hq1, id⟩
      · have hlq : q + 1 ≤ R.t.length := by omega
        go_wp2_with (first | (go_at_call 67; ((with_reducible refine ((rover_any R w0 _ _ _ (by first | exact Rx.At.inc1 (by assumption) (by omega) | exact Rx.At.inc2 (by assumption) (by omega) | exact Rx.At.set2 (by assumption) _ | assumption))).mono ?_); (rintro e w' ⟨rfl, hA⟩); (have r0 := Rx.At.c0 hA; have r1 := Rx.At.c1 hA; have r2 := Rx.At.c2 hA; have rf := Rx.At.f hA))) | (go_at_call 104; ((with_reducible refine ((rpeek0 R w0 _ _ _ (by first | exact Rx.At.inc1 (by assumption) (by omega) | exact Rx.At.inc2 (by assumption) (by omega) | exact Rx.At.set2 (by assumption) _ | assumption))).mono ?_); (rintro e w' ⟨rfl, hA⟩); (have r0 := Rx.At.c0 hA; have r1 := Rx.At.c1 hA; have r2 := Rx.At.c2 hA; have rf := Rx.At.f hA))))
        · go_roundg (R.t.length - (q + 1))
          case measure => omega
          case rel => exact ⟨q + 1, by omega, by omega, rfl, Rx.At.inc1 (by assumption) (by omega)⟩
        · go_end0
          exact ⟨rfl, q, o, by assumption, hq1, id⟩
  | true =>
    have hv : decide (hexV (byte R.t (p + 1)) < 0) = false := by rw [hexV_neg _ (byte_lo _ _), hx]; rfl
    go_enter Tryz.func136, Tryz.ntmps136
    go_wp2_with (first | (go_at_call 104; ((with_reducible refine ((rpeek0 R w0 _ _ _ (by first | exact Rx.At.inc1 (by assumption) (by omega) | exact Rx.At.inc2 (by assumption) (by omega) | exact Rx.At.set2 (by assumption) _ | assumption))).mono ?_); (rintro e w' ⟨rfl, hA⟩); (have r0 := Rx.At.c0 hA; have r1 := Rx.At.c1 hA; have r2 := Rx.At.c2 hA; have rf := Rx.At.f hA))) | (go_at_call 111; ((with_reducible refine ((hex_any _ _ (byte_lo _ _) (byte_hi _ _))).mono ?_); (rintro e w' ⟨rfl, rfl⟩))))
    have hA1 := hA
    clear hv hA r0 r1 r2 rf
    go_loopg [2] (R.t.length - (p + 1)) (fun k n wr => ∃ q m : Nat, p + 1 ≤ q ∧ q ≤ R.t.length ∧ m ≤ 6 ∧ n = .int .i64 m ∧ k = R.t.length - q ∧ R.At w0 wr q o)
    case atStart => exact ⟨p + 1, 0, by omega, by omega, by omega, rfl, rfl, by assumption⟩
    case round =>
      obtain ⟨q, m, hq1, hq2, hm, rfl, hk, hA⟩ := hrel
      clear hA1
      by_cases hcnd : m < 6 ∧ isHx (byte R.t q) = true
      · obtain ⟨hm6, hxq⟩ := hcnd
        have hv : decide (0 ≤ hexV (byte R.t q)) = true := by rw [hexV_pos _ (byte_lo _ _), hxq]
        have hlq := lt_of_class (f := isHx) rfl hxq
        go_wp2_with (first | (go_at_call 104; ((with_reducible refine ((rpeek0 R w0 _ _ _ (by first | exact Rx.At.inc1 (by assumption) (by omega) | exact Rx.At.inc2 (by assumption) (by omega) | exact Rx.At.set2 (by assumption) _ | assumption))).mono ?_); (rintro e w' ⟨rfl, hA⟩); (have r0 := Rx.At.c0 hA; have r1 := Rx.At.c1 hA; have r2 := Rx.At.c2 hA; have rf := Rx.At.f hA))) | (go_at_call 111; ((with_reducible refine ((hex_any _ _ (byte_lo _ _) (byte_hi _ _))).mono ?_); (rintro e w' ⟨rfl, rfl⟩))))
        go_roundg (R.t.length - (q + 1))
        case measure => omega
        case rel => exact ⟨q + 1, m + 1, by omega, by omega, by omega, by go_num, rfl, Rx.At.inc1 (by assumption) (by omega)⟩
      · have hex : (m < 6 ∧ decide (0 ≤ hexV (byte R.t q)) = false) ∨ ¬ m < 6 := by
          by_cases h6 : m < 6
          · refine .inl ⟨h6, ?_⟩
            rw [hexV_pos _ (byte_lo _ _)]
            cases hxq : isHx (byte R.t q) with
            | false => rfl
            | true => exact absurd ⟨h6, hxq⟩ hcnd
          · exact .inr h6
        clear hcnd hx hk
        have hlq : isWS (byte R.t q) = true → q < R.t.length := fun h => lt_of_class (f := isWS) rfl h
        have HLQ := Lib.hid hlq
        clear hlq
        rcases hex with ⟨h6, hv⟩ | h6 <;> cases h13 : (byte R.t q == 13) <;> cases hws : isWS (byte R.t q)
        all_goals first | have hlq := HLQ.out hws | skip
        all_goals
          go_wp2_with (first | (go_at_call 104; ((with_reducible refine ((rpeek0 R w0 _ _ _ (by first | exact Rx.At.inc1 (by assumption) (by omega) | exact Rx.At.inc2 (by assumption) (by omega) | exact Rx.At.set2 (by assumption) _ | assumption))).mono ?_); (rintro e w' ⟨rfl, hA⟩); (have r0 := Rx.At.c0 hA; have r1 := Rx.At.c1 hA; have r2 := Rx.At.c2 hA; have rf := Rx.At.f hA))) | (go_at_call 111; ((with_reducible refine ((hex_any _ _ (byte_lo _ _) (byte_hi _ _))).mono ?_); (rintro e w' ⟨rfl, rfl⟩))) | (go_at_call 105; ((with_reducible refine ((blank_any _ _ (byte_lo _ _) (byte_hi _ _))).mono ?_); (rintro e w' ⟨rfl, rfl⟩))))
          go_end0
          first
            | exact ⟨rfl, q, _, by assumption, hq1, id⟩
            | exact ⟨rfl, q + 1, _, Rx.At.inc1 (by assumption) (by omega), by omega, id⟩
            | exact ⟨rfl, q, _, Rx.At.set2 (by assumption) true, hq1, fun _ => rfl⟩
            | exact ⟨rfl, q, true, by assumption, hq1, fun _ => rfl⟩
            | exact ⟨rfl, q + 1, true, Rx.At.inc1 (by assumption) (by omega), by omega, fun _ => rfl⟩

/-- What a name's reading leaves. -/
def RName (R : Rx) (w0 : World) (p : Nat) (o : Bool) (e : Ending) (w' : World) : Prop :=
  e = .returned (.tuple #[]) ∧ ∃ q o', R.At w0 w' q o' ∧ p ≤ q ∧ (o = true → o' = true) ∧ (NoBs R.t → q = spanEnd R.t isNm p ∧ o' = o) ∧ (isNm (byte R.t p) = true ∨ escB R.t p = true → p < q)

set_option maxRecDepth 100000 in
set_option maxHeartbeats 2000000 in
theorem name_any : Calls Tryz.prog 139 #[.pointer (some ⟨R.g, 0, none⟩)] w (RName R w0 p o) := by
  have hpl := h.pl
  have hbig := h.big
  have hcp := h.cp
  go_enter Tryz.func139, Tryz.ntmps139
  go_wp2
  go_loopg [] (R.t.length - p) (fun k wr => ∃ q o', p ≤ q ∧ q ≤ R.t.length ∧ k = R.t.length - q ∧ R.At w0 wr q o' ∧ (o = true → o' = true) ∧ (NoBs R.t → spanEnd R.t isNm q = spanEnd R.t isNm p ∧ o' = o))
  case atStart => exact ⟨p, o, Nat.le_refl _, hpl, rfl, h, id, fun _ => ⟨rfl, rfl⟩⟩
  case round =>
    obtain ⟨q, o', hq1, hq2, hk, hA, hoo, hE⟩ := hrel
    have HE := Lib.hid hE
    have HO := Lib.hid hoo
    clear hE hoo
    by_cases hov : R.t.length ≤ q
    · have hb0 : byte R.t q = 0 := byte_end _ _ hov
      have HS := Lib.hid (spanEnd_stop (t := R.t) (f := isNm) (p := q) (by rw [hb0]; decide))
      have HP := Lib.hid (show isNm (byte R.t p) = true ∨ escB R.t p = true → p < q from by
        intro hx
        rcases Nat.lt_or_ge p q with hlt | hge
        · exact hlt
        · obtain rfl : p = q := by omega
          rcases hx with hx | hx
          · rw [hb0] at hx; exact absurd hx (by decide)
          · rw [escB, hb0] at hx; simp at hx)
      clear hb0
      go_wp2_with (first | (go_at_call 67; ((with_reducible refine ((rover_any R w0 _ _ _ (by first | exact Rx.At.inc1 (by assumption) (by omega) | exact Rx.At.inc2 (by assumption) (by omega) | exact Rx.At.set2 (by assumption) _ | assumption))).mono ?_); (rintro e w' ⟨rfl, hA⟩); (have r0 := Rx.At.c0 hA; have r1 := Rx.At.c1 hA; have r2 := Rx.At.c2 hA; have rf := Rx.At.f hA))) | (go_at_call 104; ((with_reducible refine ((rpeek0 R w0 _ _ _ (by first | exact Rx.At.inc1 (by assumption) (by omega) | exact Rx.At.inc2 (by assumption) (by omega) | exact Rx.At.set2 (by assumption) _ | assumption))).mono ?_); (rintro e w' ⟨rfl, hA⟩); (have r0 := Rx.At.c0 hA; have r1 := Rx.At.c1 hA; have r2 := Rx.At.c2 hA; have rf := Rx.At.f hA))))
      go_end0
      exact ⟨rfl, q, o', by assumption, hq1, HO.out, fun hn => ⟨by rw [← (HE.out hn).1, HS.out], (HE.out hn).2⟩, HP.out⟩
    · have hlq : q + 1 ≤ R.t.length := by omega
      cases hq : isNm (byte R.t q) with
      | true =>
        have HS := Lib.hid (spanEnd_step (f := isNm) rfl hq)
        go_wp2_with (first | (go_at_call 67; ((with_reducible refine ((rover_any R w0 _ _ _ (by first | exact Rx.At.inc1 (by assumption) (by omega) | exact Rx.At.inc2 (by assumption) (by omega) | exact Rx.At.set2 (by assumption) _ | assumption))).mono ?_); (rintro e w' ⟨rfl, hA⟩); (have r0 := Rx.At.c0 hA; have r1 := Rx.At.c1 hA; have r2 := Rx.At.c2 hA; have rf := Rx.At.f hA))) | (go_at_call 104; ((with_reducible refine ((rpeek0 R w0 _ _ _ (by first | exact Rx.At.inc1 (by assumption) (by omega) | exact Rx.At.inc2 (by assumption) (by omega) | exact Rx.At.set2 (by assumption) _ | assumption))).mono ?_); (rintro e w' ⟨rfl, hA⟩); (have r0 := Rx.At.c0 hA; have r1 := Rx.At.c1 hA; have r2 := Rx.At.c2 hA; have rf := Rx.At.f hA))) | (go_at_call 142; ((with_reducible refine ((nameByte_any _ _ (byte_lo _ _) (byte_hi _ _))).mono ?_); (rintro e w' ⟨rfl, rfl⟩))))
        go_roundg (R.t.length - (q + 1))
        case measure => omega
        case rel => exact ⟨q + 1, o', by omega, by omega, rfl, Rx.At.inc1 (by assumption) (by omega), HO.out, fun hn => ⟨HS.out.symm.trans (HE.out hn).1, (HE.out hn).2⟩⟩
      | false =>
        have HS := Lib.hid (spanEnd_stop (f := isNm) hq)
        cases he : escB R.t q with
        | false =>
          have HP := Lib.hid (show isNm (byte R.t p) = true ∨ escB R.t p = true → p < q from by
            intro hx
            rcases Nat.lt_or_ge p q with hlt | hge
            · exact hlt
            · obtain rfl : p = q := by omega
              rw [he, hq] at hx; simp at hx)
          have HOO := Lib.hid (show NoBs R.t → (o' || escO R.t q) = o' from fun hn => by rw [hn.escO, Bool.or_false])
          go_wp2_with (first | (go_at_call 67; ((with_reducible refine ((rover_any R w0 _ _ _ (by first | exact Rx.At.inc1 (by assumption) (by omega) | exact Rx.At.inc2 (by assumption) (by omega) | exact Rx.At.set2 (by assumption) _ | assumption))).mono ?_); (rintro e w' ⟨rfl, hA⟩); (have r0 := Rx.At.c0 hA; have r1 := Rx.At.c1 hA; have r2 := Rx.At.c2 hA; have rf := Rx.At.f hA))) | (go_at_call 104; ((with_reducible refine ((rpeek0 R w0 _ _ _ (by first | exact Rx.At.inc1 (by assumption) (by omega) | exact Rx.At.inc2 (by assumption) (by omega) | exact Rx.At.set2 (by assumption) _ | assumption))).mono ?_); (rintro e w' ⟨rfl, hA⟩); (have r0 := Rx.At.c0 hA; have r1 := Rx.At.c1 hA; have r2 := Rx.At.c2 hA; have rf := Rx.At.f hA))) | (go_at_call 142; ((with_reducible refine ((nameByte_any _ _ (byte_lo _ _) (byte_hi _ _))).mono ?_); (rintro e w' ⟨rfl, rfl⟩))) | (go_at_call 135; ((with_reducible refine ((escapes0 R w0 _ _ _ (by first | exact Rx.At.inc1 (by assumption) (by omega) | exact Rx.At.inc2 (by assumption) (by omega) | exact Rx.At.set2 (by assumption) _ | assumption))).mono ?_); (rintro e w' ⟨rfl, hA⟩); (have r0 := Rx.At.c0 hA; have r1 := Rx.At.c1 hA; have r2 := Rx.At.c2 hA; have rf := Rx.At.f hA))))
          go_end0
          exact ⟨rfl, q, _, by assumption, hq1, fun ho => by rw [HO.out ho]; rfl, fun hn => ⟨by rw [← (HE.out hn).1, HS.out], (HOO.out hn).trans (HE.out hn).2⟩, HP.out⟩
        | true =>
          have HB := Lib.hid (show ¬ NoBs R.t from fun hn => by rw [hn.escB] at he; cases he)
          have HI := Lib.hid he
          go_wp2_with (first | (go_at_call 67; ((with_reducible refine ((rover_any R w0 _ _ _ (by first | exact Rx.At.inc1 (by assumption) (by omega) | exact Rx.At.inc2 (by assumption) (by omega) | exact Rx.At.set2 (by assumption) _ | assumption))).mono ?_); (rintro e w' ⟨rfl, hA⟩); (have r0 := Rx.At.c0 hA; have r1 := Rx.At.c1 hA; have r2 := Rx.At.c2 hA; have rf := Rx.At.f hA))) | (go_at_call 104; ((with_reducible refine ((rpeek0 R w0 _ _ _ (by first | exact Rx.At.inc1 (by assumption) (by omega) | exact Rx.At.inc2 (by assumption) (by omega) | exact Rx.At.set2 (by assumption) _ | assumption))).mono ?_); (rintro e w' ⟨rfl, hA⟩); (have r0 := Rx.At.c0 hA; have r1 := Rx.At.c1 hA; have r2 := Rx.At.c2 hA; have rf := Rx.At.f hA))) | (go_at_call 142; ((with_reducible refine ((nameByte_any _ _ (byte_lo _ _) (byte_hi _ _))).mono ?_); (rintro e w' ⟨rfl, rfl⟩))) | (go_at_call 135; ((with_reducible refine ((escapes0 R w0 _ _ _ (by first | exact Rx.At.inc1 (by assumption) (by omega) | exact Rx.At.inc2 (by assumption) (by omega) | exact Rx.At.set2 (by assumption) _ | assumption))).mono ?_); (rintro e w' ⟨rfl, hA⟩); (have r0 := Rx.At.c0 hA; have r1 := Rx.At.c1 hA; have r2 := Rx.At.c2 hA; have rf := Rx.At.f hA))) | (go_at_call 136; ((with_reducible refine (escape_any R w0 _ _ _ (by assumption) HI.out).mono ?_); (rintro e w' ⟨rfl, q', o2, hA, hq', ho2⟩))))
          go_roundg (R.t.length - q')
          case measure => have := hA.pl; omega
          case rel => exact ⟨q', o2, by omega, hA.pl, rfl, hA, fun ho => ho2 (by rw [HO.out ho]; rfl), fun hn => absurd hn HB.out⟩
end
end Go.Proofs.YtlglijnaeaonpaaGreatDoor.Css
/- The reference's reader: numbers. -/
namespace Go.Proofs.YtlglijnaeaonpaaGreatDoor.Css
open Go.RowKit

/-- The names of the kinds of tokens. -/
def knm : Int → ByteArray
  | 1 => ⟨#[105, 100, 101, 110, 116]⟩
  | 2 => ⟨#[102, 117, 110, 99, 116, 105, 111, 110]⟩
  | 3 => ⟨#[97, 116]⟩
  | 4 => ⟨#[104, 97, 115, 104]⟩
  | 5 => ⟨#[115, 116, 114, 105, 110, 103]⟩
  | 6 => ⟨#[98, 97, 100, 32, 115, 116, 114, 105, 110, 103]⟩
  | 7 => ⟨#[117, 114, 108]⟩
  | 8 => ⟨#[98, 97, 100, 32, 117, 114, 108]⟩
  | 9 => ⟨#[100, 101, 108, 105, 109]⟩
  | 10 => ⟨#[110, 117, 109, 98, 101, 114]⟩
  | 11 => ⟨#[112, 101, 114, 99, 101, 110, 116, 97, 103, 101]⟩
  | 12 => ⟨#[100, 105, 109, 101, 110, 115, 105, 111, 110]⟩
  | 13 => ⟨#[114, 97, 110, 103, 101]⟩
  | 14 => ⟨#[126, 61]⟩
  | 15 => ⟨#[124, 61]⟩
  | 16 => ⟨#[94, 61]⟩
  | 17 => ⟨#[36, 61]⟩
  | 18 => ⟨#[42, 61]⟩
  | 19 => ⟨#[124, 124]⟩
  | 20 => ⟨#[98, 108, 97, 110, 107]⟩
  | 21 => ⟨#[60, 33, 45, 45]⟩
  | 22 => ⟨#[45, 45, 62]⟩
  | 23 => ⟨#[58]⟩
  | 24 => ⟨#[59]⟩
  | 25 => ⟨#[44]⟩
  | 26 => ⟨#[91]⟩
  | 27 => ⟨#[93]⟩
  | 28 => ⟨#[40]⟩
  | 29 => ⟨#[41]⟩
  | 30 => ⟨#[123]⟩
  | 31 => ⟨#[125]⟩
  | _ => ⟨#[99, 111, 109, 109, 101, 110, 116]⟩

/-- A token has been read from p on: its kind, where it ends, what is known of it. -/
def RTok (R : Rx) (w0 : World) (p : Nat) (o : Bool) (K : Int → Nat → Bool → Prop) (e : Ending) (w' : World) : Prop :=
  ∃ (tt : Int) (q : Nat) (o' : Bool), e = .returned (.string (knm tt)) ∧ R.At w0 w' q o' ∧ p < q ∧ (o = true → o' = true) ∧ (1 ≤ tt ∧ tt ≤ 32) ∧ K tt q o'
theorem RTok.mono {R : Rx} {w0 : World} {p : Nat} {o : Bool} {K K' : Int → Nat → Bool → Prop} {e : Ending} {w' : World} (h : RTok R w0 p o K e w') (hk : ∀ tt q o', K tt q o' → K' tt q o') : RTok R w0 p o K' e w' := by
  obtain ⟨tt, q, o', h1, h2, h3, h4, h5, h6⟩ := h
  exact ⟨tt, q, o', h1, h2, h3, h4, h5, hk _ _ _ h6⟩

theorem numB_some {t : List UInt8} {p : Nat} (h : numB t p = true) : ∃ p3, fracEnd t (signEnd t p) = some p3 := Option.isSome_iff_exists.1 h
theorem frac_val {t : List UInt8} {s p3 : Nat} (h : fracEnd t s = some p3) :
    p3 = if byte t (spanEnd t isDg s) == 46 && isDg (byte t (spanEnd t isDg s + 1)) then spanEnd t isDg (spanEnd t isDg s + 1) else spanEnd t isDg s := by
  unfold fracEnd at h
  cases hd : isDg (byte t s) with
  | true =>
    rw [hd, if_pos rfl] at h
    split at h <;> rename_i hx <;> simp only [hx] <;> exact (Option.some.inj h).symm
  | false =>
    rw [hd, if_neg Bool.false_ne_true] at h
    rw [spanEnd_stop (f := isDg) hd]
    split at h
    · rename_i hx; rw [if_pos hx]; exact (Option.some.inj h).symm
    · cases h

theorem expEnd_le {t : List UInt8} {p : Nat} (h : p ≤ t.length) : expEnd t p ≤ t.length := by
  unfold expEnd
  split
  · rename_i hc
    have hlt : p + 1 ≤ t.length := by
      rcases Nat.lt_or_ge p t.length with h' | h'
      · exact h'
      · rw [byte_end _ _ h'] at hc; exact absurd hc (by decide)
    split
    · exact spanEnd_le _ _ _ (signEnd_le hlt)
    · exact h
  · exact h

/-- Where the first letter of a name stands, if one begins at i. -/
theorem idB_yes {t : List UInt8} {i : Nat} (hn : NoBs t) (h : idB t i = true) (ho : idO t i = false) :
    ∃ p1, (((byte t i == 45) = false ∧ p1 = i) ∨ ((byte t i == 45) = true ∧ (byte t (i + 1) == 45) = false ∧ p1 = i + 1)) ∧ isSt (byte t p1) = true ∧ spanEnd t isNm i = spanEnd t isNm (p1 + 1) := by
  unfold idB at h
  unfold idO at ho
  simp only [hn.escB, hn.escO, Bool.or_false, Bool.and_false] at h ho
  cases hc : byte t i == 45 with
  | true =>
    simp only [hc, if_true] at h ho
    refine ⟨i + 1, .inr ⟨rfl, ho, rfl⟩, h, ?_⟩
    rw [spanEnd_step (f := isNm) rfl (by rw [beq_iff_eq.1 hc]; decide), spanEnd_step (f := isNm) rfl (isSt_nm h)]
  | false =>
    simp only [hc, Bool.false_eq_true, if_false] at h
    exact ⟨i, .inl ⟨rfl, rfl⟩, h, spanEnd_step (f := isNm) rfl (isSt_nm h)⟩
theorem idB_no {t : List UInt8} {i : Nat} (hn : NoBs t) (h : idB t i = false) (ho : idO t i = false) :
    ∃ p1, (((byte t i == 45) = false ∧ p1 = i) ∨ ((byte t i == 45) = true ∧ (byte t (i + 1) == 45) = false ∧ p1 = i + 1)) ∧ isSt (byte t p1) = false := by
  unfold idB at h
  unfold idO at ho
  simp only [hn.escB, hn.escO, Bool.or_false, Bool.and_false] at h ho
  cases hc : byte t i == 45 with
  | true =>
    simp only [hc, if_true] at h ho
    exact ⟨i + 1, .inr ⟨rfl, ho, rfl⟩, h⟩
  | false =>
    simp only [hc, Bool.false_eq_true, if_false] at h
    exact ⟨i, .inl ⟨rfl, rfl⟩, h⟩
theorem pos_ne37 {t : List UInt8} {i p1 : Nat} (h : ((byte t i == 45) = false ∧ p1 = i) ∨ ((byte t i == 45) = true ∧ (byte t (i + 1) == 45) = false ∧ p1 = i + 1)) (hs : isSt (byte t p1) = true) : (byte t i == 37) = false := by
  rcases h with ⟨_, rfl⟩ | ⟨h, _⟩
  · rw [beq_eq_false_iff_ne]; have := isSt_yes hs; omega
  · rw [beq_iff_eq.1 h]; rfl
/-- A name that begins at i has a byte that a reader takes. -/
theorem idB_go {t : List UInt8} {i : Nat} (h : idB t i = true) : isNm (byte t i) = true ∨ escB t i = true := by
  unfold idB at h
  cases hc : byte t i == 45 with
  | true => left; rw [beq_iff_eq.1 hc]; decide
  | false =>
    rw [hc] at h
    simp only [Bool.false_eq_true, if_false, Bool.or_eq_true] at h
    rcases h with h | h
    · exact .inl (isSt_nm h)
    · exact .inr h

section
variable (R : Rx) (w0 w : World) (p : Nat) (o : Bool) (h : R.At w0 w p o)
include h
/-- Where a number ends, ahead of its unit. -/
def numE (t : List UInt8) (p : Nat) : Nat := expEnd t ((fracEnd t (signEnd t p)).getD p)
/-- What is known of a number that has been read. -/
def NumK (R : Rx) (p : Nat) (o : Bool) (tt : Int) (q : Nat) (o' : Bool) : Prop := (o' = false → NoBs R.t → NumT R.t p tt q) ∧ (NoBs R.t → o' = (o || idO R.t (numE R.t p)))

set_option maxRecDepth 100000 in
set_option maxHeartbeats 2000000 in
theorem rnumeric_any (hnb : numB R.t p = true) : Calls Tryz.prog 110 #[.pointer (some ⟨R.g, 0, none⟩)] w (RTok R w0 p o (NumK R p o)) := by
  obtain ⟨p3, hf⟩ := numB_some hnb
  have hbig := h.big
  have hcp := h.cp
  have hpl := h.pl
  have hsg := signEnd_le hpl
  have hge1 := signEnd_ge R.t p
  have hge2 := fracEnd_gt hf
  have HF := Lib.hid hf
  have HFV := Lib.hid (frac_val hf)
  clear hf hnb
  obtain ⟨s, hs⟩ : ∃ s, s = signEnd R.t p := ⟨_, rfl⟩
  rw [← hs] at hsg hge1 hge2 HFV
  have HS := Lib.hid hs
  clear hs
  go_enter Tryz.func110, Tryz.ntmps110
  go_upto_region 2 with (first | (go_at_call 104; ((with_reducible refine ((rpeek0 R w0 _ _ _ (by first | exact Rx.At.inc1 (by assumption) (by omega) | exact Rx.At.inc2 (by assumption) (by omega) | exact Rx.At.set2 (by assumption) _ | assumption))).mono ?_); (rintro e w' ⟨rfl, hA⟩); (have r0 := Rx.At.c0 hA; have r1 := Rx.At.c1 hA; have r2 := Rx.At.c2 hA; have rf := Rx.At.f hA))))
  go_cut [3, 14] (fun _ s14 wx => s14 = .bool (byte R.t p == 43 || byte R.t p == 45) ∧ R.At w0 wx p o)
  case first =>
    go_wp2_with fail
    all_goals (go_meet; exact ⟨congrArg Value.bool (Bool.eq_iff_iff.2 (by simp <;> omega)), by assumption⟩)
  case rest =>
  obtain ⟨rfl, hA⟩ := hcut
  have r0 := Rx.At.c0 hA
  have r1 := Rx.At.c1 hA
  have r2 := Rx.At.c2 hA
  have rf := Rx.At.f hA
  have hsv : s = if (byte R.t p == 43 || byte R.t p == 45) then p + 1 else p := HS.out
  obtain ⟨b, hb⟩ : ∃ b, b = (byte R.t p == 43 || byte R.t p == 45) := ⟨_, rfl⟩
  rw [← hb] at hsv ⊢
  have HSV := Lib.hid hsv
  clear hb hsv
  go_upto_if 14 with fail
  go_cut [] (fun wx => R.At w0 wx s o)
  case first =>
    cases b with
    | false =>
      go_wp2_with fail
      go_meet
      rw [HSV.out]; exact hA
    | true =>
      have e := Lib.hid (show s = p + 1 from HSV.out)
      go_wp2_with fail
      go_meet
      rw [e.out]; exact Rx.At.inc1 hA (by have := e.out; omega)
  case rest =>
  have hA := hcut
  have hsp := spanEnd_le R.t isDg s hsg
  obtain ⟨p2, hp2⟩ : ∃ p2, p2 = spanEnd R.t isDg s := ⟨_, rfl⟩
  have hp2g := spanEnd_ge R.t isDg s
  have HDG := fun (w' : World) (hA : R.At w0 w' s o) => digits_any R w0 w' s o hA
  have hfv := HFV.out
  rw [← hp2] at hsp hp2g HDG hfv
  clear hp2
  obtain ⟨d, hd⟩ : ∃ d, d = (byte R.t p2 == 46 && isDg (byte R.t (p2 + 1))) := ⟨_, rfl⟩
  have HD := Lib.hid hd
  rw [← hd] at hfv
  have HFV2 := Lib.hid hfv
  clear hfv hd r0 r1 r2 rf
  go_upto_region 5 with (first | (go_at_call 138; ((with_reducible refine (HDG _ (by assumption)).mono ?_); (rintro e w' ⟨rfl, hA⟩); (have r0 := Rx.At.c0 hA; have r1 := Rx.At.c1 hA; have r2 := Rx.At.c2 hA; have rf := Rx.At.f hA))))
  go_cut [31] (fun s31 wx => s31 = .bool d ∧ R.At w0 wx p2 o)
  case first =>
    cases h46 : (byte R.t p2 == 46) with
    | false =>
      have e := Lib.hid (show d = false from by rw [HD.out, h46]; rfl)
      go_wp2_with (first | (go_at_call 104; ((with_reducible refine ((rpeek0 R w0 _ _ _ (by first | exact Rx.At.inc1 (by assumption) (by omega) | exact Rx.At.inc2 (by assumption) (by omega) | exact Rx.At.set2 (by assumption) _ | assumption))).mono ?_); (rintro e w' ⟨rfl, hA⟩); (have r0 := Rx.At.c0 hA; have r1 := Rx.At.c1 hA; have r2 := Rx.At.c2 hA; have rf := Rx.At.f hA))) | (go_at_call 104; ((with_reducible refine ((rpeek1 R w0 _ _ _ (by first | exact Rx.At.inc1 (by assumption) (by omega) | exact Rx.At.inc2 (by assumption) (by omega) | exact Rx.At.set2 (by assumption) _ | assumption))).mono ?_); (rintro e w' ⟨rfl, hA⟩); (have r0 := Rx.At.c0 hA; have r1 := Rx.At.c1 hA; have r2 := Rx.At.c2 hA; have rf := Rx.At.f hA))) | (go_at_call 137; ((with_reducible refine ((digit_any _ _ (byte_lo _ _) (byte_hi _ _))).mono ?_); (rintro e w' ⟨rfl, rfl⟩))))
      go_meet
      exact ⟨congrArg Value.bool e.out.symm, by assumption⟩
    | true =>
      have e := Lib.hid (show d = isDg (byte R.t (p2 + 1)) from by rw [HD.out, h46]; rfl)
      go_wp2_with (first | (go_at_call 104; ((with_reducible refine ((rpeek0 R w0 _ _ _ (by first | exact Rx.At.inc1 (by assumption) (by omega) | exact Rx.At.inc2 (by assumption) (by omega) | exact Rx.At.set2 (by assumption) _ | assumption))).mono ?_); (rintro e w' ⟨rfl, hA⟩); (have r0 := Rx.At.c0 hA; have r1 := Rx.At.c1 hA; have r2 := Rx.At.c2 hA; have rf := Rx.At.f hA))) | (go_at_call 104; ((with_reducible refine ((rpeek1 R w0 _ _ _ (by first | exact Rx.At.inc1 (by assumption) (by omega) | exact Rx.At.inc2 (by assumption) (by omega) | exact Rx.At.set2 (by assumption) _ | assumption))).mono ?_); (rintro e w' ⟨rfl, hA⟩); (have r0 := Rx.At.c0 hA; have r1 := Rx.At.c1 hA; have r2 := Rx.At.c2 hA; have rf := Rx.At.f hA))) | (go_at_call 137; ((with_reducible refine ((digit_any _ _ (byte_lo _ _) (byte_hi _ _))).mono ?_); (rintro e w' ⟨rfl, rfl⟩))))
      go_meet
      exact ⟨congrArg Value.bool e.out.symm, by assumption⟩
  case rest =>
  obtain ⟨rfl, hA⟩ := hcut
  have r0 := Rx.At.c0 hA
  have r1 := Rx.At.c1 hA
  have r2 := Rx.At.c2 hA
  have rf := Rx.At.f hA
  go_upto_if 31 with fail
  go_cut [] (fun wx => R.At w0 wx p3 o)
  case first =>
    cases d with
    | false =>
      go_wp2_with fail
      go_meet
      rw [HFV2.out]; exact hA
    | true =>
      have hlt : p2 + 1 ≤ R.t.length := by
        have := HD.out
        rcases Nat.lt_or_ge p2 R.t.length with h' | h'
        · exact h'
        · rw [byte_end _ _ h'] at this; cases this
      have HDG := fun (w' : World) (hA : R.At w0 w' (p2 + 1) o) => digits_any R w0 w' (p2 + 1) o hA
      have hA1 := hA.inc1 hlt
      clear hA hcut
      go_wp2_with (first | (go_at_call 138; ((with_reducible refine (HDG _ (by assumption)).mono ?_); (rintro e w' ⟨rfl, hA⟩))))
      go_meet
      rw [HFV2.out]; exact hA
  case rest =>
  have hA := hcut
  have hp3 := hA.pl
  have hpe := expEnd_le hp3
  have hge3 := expEnd_ge R.t p3
  obtain ⟨pe, hpe'⟩ : ∃ pe, pe = expEnd R.t p3 := ⟨_, rfl⟩
  have hev : pe = if byte R.t p3 == 101 || byte R.t p3 == 69 then (if isDg (byte R.t (signEnd R.t (p3 + 1))) then spanEnd R.t isDg (signEnd R.t (p3 + 1)) else p3) else p3 := hpe'
  have HPE := Lib.hid hpe'
  rw [← hpe'] at hpe hge3
  obtain ⟨b, hb⟩ : ∃ b, b = (byte R.t p3 == 101 || byte R.t p3 == 69) := ⟨_, rfl⟩
  have HB := Lib.hid hb
  rw [← hb] at hev
  have HEV := Lib.hid hev
  clear hev hb hpe' r0 r1 r2 rf
  go_upto_region 9 with (first | (go_at_call 104; ((with_reducible refine ((rpeek0 R w0 _ _ _ (by first | exact Rx.At.inc1 (by assumption) (by omega) | exact Rx.At.inc2 (by assumption) (by omega) | exact Rx.At.set2 (by assumption) _ | assumption))).mono ?_); (rintro e w' ⟨rfl, hA⟩); (have r0 := Rx.At.c0 hA; have r1 := Rx.At.c1 hA; have r2 := Rx.At.c2 hA; have rf := Rx.At.f hA))))
  go_cut [4, 48] (fun _ s48 wx => s48 = .bool b ∧ R.At w0 wx p3 o)
  case first =>
    go_wp2_with fail
    all_goals (go_meet; exact ⟨congrArg Value.bool ((Bool.eq_iff_iff.2 (by simp <;> omega)).trans HB.out.symm), by assumption⟩)
  case rest =>
  obtain ⟨rfl, hA⟩ := hcut
  have r0 := Rx.At.c0 hA
  have r1 := Rx.At.c1 hA
  have r2 := Rx.At.c2 hA
  have rf := Rx.At.f hA
  go_upto_if 48 with fail
  go_cut [] (fun wx => R.At w0 wx pe o)
  case first =>
    cases b with
    | false =>
      go_wp2_with fail
      go_meet
      rw [HEV.out]; exact hA
    | true =>
      have hlt : p3 < R.t.length := by
        have := HB.out
        rcases Nat.lt_or_ge p3 R.t.length with h' | h'
        · exact h'
        · rw [byte_end _ _ h'] at this; cases this
      have hev : pe = if isDg (byte R.t (signEnd R.t (p3 + 1))) then spanEnd R.t isDg (signEnd R.t (p3 + 1)) else p3 := HEV.out
      have HEV2 := Lib.hid hev
      clear hev r0 r1 r2 rf
      cases h43 : (byte R.t (p3 + 1) == 43) <;> cases h45 : (byte R.t (p3 + 1) == 45)
      case true.true => rw [beq_iff_eq.1 h43] at h45; exact absurd h45 (by decide)
      case false.false =>
        have e := Lib.hid (show signEnd R.t (p3 + 1) = p3 + 1 from by rw [signEnd, h43, h45]; rfl)
        have hev := HEV2.out
        rw [e.out] at hev
        have HDG := fun (w' : World) (hA : R.At w0 w' (p3 + 1) o) => digits_any R w0 w' (p3 + 1) o hA
        cases hd : isDg (byte R.t (p3 + 1)) with
        | false =>
          rw [hd, if_neg Bool.false_ne_true] at hev
          have HX := Lib.hid hev
          clear hev
          go_wp2_with (first | (go_at_call 104; ((with_reducible refine ((rpeek1 R w0 _ _ _ (by first | exact Rx.At.inc1 (by assumption) (by omega) | exact Rx.At.inc2 (by assumption) (by omega) | exact Rx.At.set2 (by assumption) _ | assumption))).mono ?_); (rintro e w' ⟨rfl, hA⟩); (have r0 := Rx.At.c0 hA; have r1 := Rx.At.c1 hA; have r2 := Rx.At.c2 hA; have rf := Rx.At.f hA))) | (go_at_call 137; ((with_reducible refine ((digit_any _ _ (byte_lo _ _) (byte_hi _ _))).mono ?_); (rintro e w' ⟨rfl, rfl⟩))))
          go_meet
          rw [HX.out]; assumption
        | true =>
          rw [hd, if_pos rfl] at hev
          have HX := Lib.hid hev
          clear hev
          go_wp2_with (first | (go_at_call 104; ((with_reducible refine ((rpeek1 R w0 _ _ _ (by first | exact Rx.At.inc1 (by assumption) (by omega) | exact Rx.At.inc2 (by assumption) (by omega) | exact Rx.At.set2 (by assumption) _ | assumption))).mono ?_); (rintro e w' ⟨rfl, hA⟩); (have r0 := Rx.At.c0 hA; have r1 := Rx.At.c1 hA; have r2 := Rx.At.c2 hA; have rf := Rx.At.f hA))) | (go_at_call 137; ((with_reducible refine ((digit_any _ _ (byte_lo _ _) (byte_hi _ _))).mono ?_); (rintro e w' ⟨rfl, rfl⟩))) | (go_at_call 138; ((with_reducible refine (HDG _ (Rx.At.inc1 (by assumption) (by omega))).mono ?_); (rintro e w' ⟨rfl, hA⟩))))
          go_meet
          rw [HX.out]; assumption
      all_goals
        have e := Lib.hid (show signEnd R.t (p3 + 1) = p3 + 2 from by rw [signEnd, h43, h45]; rfl)
        have hev := HEV2.out
        rw [e.out] at hev
        have HDG := fun (w' : World) (hA : R.At w0 w' (p3 + 2) o) => digits_any R w0 w' (p3 + 2) o hA
        have hlt2 : p3 + 1 < R.t.length := by
          rcases Nat.lt_or_ge (p3 + 1) R.t.length with h' | h'
          · exact h'
          · rw [byte_end _ _ h'] at h43 h45; first | cases h43; done | cases h45; done
        cases hd : isDg (byte R.t (p3 + 2)) with
        | false =>
          rw [hd, if_neg Bool.false_ne_true] at hev
          have HX := Lib.hid hev
          clear hev
          go_wp2_with (first | (go_at_call 104; ((with_reducible refine ((rpeek1 R w0 _ _ _ (by first | exact Rx.At.inc1 (by assumption) (by omega) | exact Rx.At.inc2 (by assumption) (by omega) | exact Rx.At.set2 (by assumption) _ | assumption))).mono ?_); (rintro e w' ⟨rfl, hA⟩); (have r0 := Rx.At.c0 hA; have r1 := Rx.At.c1 hA; have r2 := Rx.At.c2 hA; have rf := Rx.At.f hA))) | (go_at_call 104; ((with_reducible refine ((rpeek2 R w0 _ _ _ (by first | exact Rx.At.inc1 (by assumption) (by omega) | exact Rx.At.inc2 (by assumption) (by omega) | exact Rx.At.set2 (by assumption) _ | assumption))).mono ?_); (rintro e w' ⟨rfl, hA⟩); (have r0 := Rx.At.c0 hA; have r1 := Rx.At.c1 hA; have r2 := Rx.At.c2 hA; have rf := Rx.At.f hA))) | (go_at_call 137; ((with_reducible refine ((digit_any _ _ (byte_lo _ _) (byte_hi _ _))).mono ?_); (rintro e w' ⟨rfl, rfl⟩))))
          go_meet
          rw [HX.out]; assumption
        | true =>
          rw [hd, if_pos rfl] at hev
          have HX := Lib.hid hev
          clear hev
          go_wp2_with (first | (go_at_call 104; ((with_reducible refine ((rpeek1 R w0 _ _ _ (by first | exact Rx.At.inc1 (by assumption) (by omega) | exact Rx.At.inc2 (by assumption) (by omega) | exact Rx.At.set2 (by assumption) _ | assumption))).mono ?_); (rintro e w' ⟨rfl, hA⟩); (have r0 := Rx.At.c0 hA; have r1 := Rx.At.c1 hA; have r2 := Rx.At.c2 hA; have rf := Rx.At.f hA))) | (go_at_call 104; ((with_reducible refine ((rpeek2 R w0 _ _ _ (by first | exact Rx.At.inc1 (by assumption) (by omega) | exact Rx.At.inc2 (by assumption) (by omega) | exact Rx.At.set2 (by assumption) _ | assumption))).mono ?_); (rintro e w' ⟨rfl, hA⟩); (have r0 := Rx.At.c0 hA; have r1 := Rx.At.c1 hA; have r2 := Rx.At.c2 hA; have rf := Rx.At.f hA))) | (go_at_call 137; ((with_reducible refine ((digit_any _ _ (byte_lo _ _) (byte_hi _ _))).mono ?_); (rintro e w' ⟨rfl, rfl⟩))) | (go_at_call 138; ((with_reducible refine (HDG _ (Rx.At.inc2 (by assumption) (by omega))).mono ?_); (rintro e w' ⟨rfl, hA⟩))))
          go_meet
          rw [HX.out]; assumption
  case rest =>
  have hA := hcut
  clear r0 r1 r2 rf
  have HNE := Lib.hid (show numE R.t p = pe from by rw [numE, HF.out, HPE.out]; rfl)
  cases hid : idB R.t pe with
  | true =>
    have HI := Lib.hid hid
    have HN := fun (w' : World) (o' : Bool) (hA : R.At w0 w' pe o') => name_any R w0 w' pe o' hA
    go_wp2_with (first | (go_at_call 113; ((with_reducible refine ((ident0 R w0 _ _ _ (by first | exact Rx.At.inc1 (by assumption) (by omega) | exact Rx.At.inc2 (by assumption) (by omega) | exact Rx.At.set2 (by assumption) _ | assumption))).mono ?_); (rintro e w' ⟨rfl, hA⟩); (have r0 := Rx.At.c0 hA; have r1 := Rx.At.c1 hA; have r2 := Rx.At.c2 hA; have rf := Rx.At.f hA))) | (go_at_call 139; ((with_reducible refine (HN _ _ (by assumption)).mono ?_); (rintro e w' ⟨rfl, q, o2, hA, hq, ho2, hnb, hgo⟩))))
    go_ret
    refine ⟨12, q, o2, rfl, hA, by have := hgo (idB_go HI.out); omega, fun ho => ho2 (by rw [ho]; rfl), by omega, fun h2 hn => ?_, fun hn => by rw [HNE.out]; exact (hnb hn).2⟩
    obtain ⟨hq2, ho3⟩ := hnb hn
    have hoi : idO R.t pe = false := by rw [ho3] at h2; exact (Bool.or_eq_false_iff.1 h2).2
    obtain ⟨p1, hp1, hs1, he1⟩ := idB_yes hn HI.out hoi
    rw [hq2, he1]
    rw [HPE.out] at hp1
    exact .dim p3 p1 HF.out (pos_ne37 hp1 hs1) hp1 hs1
  | false =>
    have HI := Lib.hid hid
    cases h37 : (byte R.t pe == 37) with
    | true =>
      have hlt := lt_of_byte (t := R.t) (p := pe) (by rw [beq_iff_eq.1 h37]; decide)
      go_wp2_with (first | (go_at_call 113; ((with_reducible refine ((ident0 R w0 _ _ _ (by first | exact Rx.At.inc1 (by assumption) (by omega) | exact Rx.At.inc2 (by assumption) (by omega) | exact Rx.At.set2 (by assumption) _ | assumption))).mono ?_); (rintro e w' ⟨rfl, hA⟩); (have r0 := Rx.At.c0 hA; have r1 := Rx.At.c1 hA; have r2 := Rx.At.c2 hA; have rf := Rx.At.f hA))) | (go_at_call 104; ((with_reducible refine ((rpeek0 R w0 _ _ _ (by first | exact Rx.At.inc1 (by assumption) (by omega) | exact Rx.At.inc2 (by assumption) (by omega) | exact Rx.At.set2 (by assumption) _ | assumption))).mono ?_); (rintro e w' ⟨rfl, hA⟩); (have r0 := Rx.At.c0 hA; have r1 := Rx.At.c1 hA; have r2 := Rx.At.c2 hA; have rf := Rx.At.f hA))))
      go_ret
      refine ⟨11, pe + 1, _, rfl, Rx.At.inc1 (by assumption) (by omega), by omega, fun ho => by rw [ho]; rfl, by omega, fun h2 hn => ?_, fun hn => by rw [HNE.out]⟩
      rw [HPE.out]
      exact .pc p3 HF.out (by rw [← HPE.out]; exact beq_iff_eq.1 h37)
    | false =>
      go_wp2_with (first | (go_at_call 113; ((with_reducible refine ((ident0 R w0 _ _ _ (by first | exact Rx.At.inc1 (by assumption) (by omega) | exact Rx.At.inc2 (by assumption) (by omega) | exact Rx.At.set2 (by assumption) _ | assumption))).mono ?_); (rintro e w' ⟨rfl, hA⟩); (have r0 := Rx.At.c0 hA; have r1 := Rx.At.c1 hA; have r2 := Rx.At.c2 hA; have rf := Rx.At.f hA))) | (go_at_call 104; ((with_reducible refine ((rpeek0 R w0 _ _ _ (by first | exact Rx.At.inc1 (by assumption) (by omega) | exact Rx.At.inc2 (by assumption) (by omega) | exact Rx.At.set2 (by assumption) _ | assumption))).mono ?_); (rintro e w' ⟨rfl, hA⟩); (have r0 := Rx.At.c0 hA; have r1 := Rx.At.c1 hA; have r2 := Rx.At.c2 hA; have rf := Rx.At.f hA))))
      go_ret
      refine ⟨10, pe, _, rfl, by assumption, by omega, fun ho => by rw [ho]; rfl, by omega, fun h2 hn => ?_, fun hn => by rw [HNE.out]⟩
      obtain ⟨p1, hp1, hs1⟩ := idB_no hn HI.out (Bool.or_eq_false_iff.1 h2).2
      rw [HPE.out] at hp1 h37 ⊢
      exact .num p3 p1 HF.out h37 hp1 hs1
end
end Go.Proofs.YtlglijnaeaonpaaGreatDoor.Css
