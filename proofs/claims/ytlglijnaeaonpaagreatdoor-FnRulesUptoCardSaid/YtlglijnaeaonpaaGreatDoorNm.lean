/- The reference's reader: signs. -/
import Derived.Test.YtlglijnaeaonpaaGreatDoorMl
set_option linter.all false
/- The reference's reader: signs. -/
namespace Go.Proofs.YtlglijnaeaonpaaGreatDoor.Css
open Go.RowKit

/-- The kinds of tokens of which something is claimed. -/
def Allow (t : List UInt8) (p : Nat) (tt : Int) : Prop := (tt ≠ 3 ∧ tt ≠ 13 ∧ tt ≠ 19 ∧ tt ≠ 21 ∧ tt ≠ 22 ∧ tt ≠ 32) ∧ (tt = 9 → byte t p = 46 ∨ byte t p = 62 ∨ byte t p = 43 ∨ byte t p = 126 ∨ byte t p = 61 ∨ byte t p = 42)
/-- What is known of a token that has been read. -/
def TokK (R : Rx) (p : Nat) (tt : Int) (q : Nat) (o' : Bool) : Prop := o' = false → NoBs R.t → NoZ R.t → Allow R.t p tt → Tk R.t p tt q

/-- A sign that is a token of one byte though it could begin another one. -/
def Sp9 (t : List UInt8) (p : Nat) : Prop := (byte t p = 64 ∧ idB t (p + 1) = false) ∨ (byte t p = 60 ∧ ¬ (byte t (p + 1) = 33 ∧ byte t (p + 2) = 45 ∧ byte t (p + 3) = 45))
def idS (t : List UInt8) (p : Nat) : Bool := byte t p == 64 && idO t (p + 1)
theorem idS_no {t : List UInt8} {p : Nat} {o : Bool} (h : byte t p = 60) : o = (o || idS t p) := by rw [idS, h]; simp
theorem idS_yes {t : List UInt8} {p : Nat} {o : Bool} (h : byte t p = 64) : (o || idO t (p + 1)) = (o || idS t p) := by rw [idS, h]; simp
/-- A sign's token, told exactly. -/
inductive SgnD (t : List UInt8) (p : Nat) (o : Bool) : Int → Nat → Bool → Prop where
  | sp (tt : Int) (q : Nat) (o' : Bool) : byte t p = 64 ∨ byte t p = 60 ∨ (byte t p = 124 ∧ byte t (p + 1) = 124) → (NoBs t → (Sp9 t p → tt = 9 ∧ q = p + 1 ∧ o' = (o || idS t p)) ∧ (¬ Sp9 t p → tt ≠ 9)) → SgnD t p o tt q o'
  | one (tt : Int) : (byte t p, tt) ∈ [((40 : Int), (28 : Int)), (41, 29), (44, 25), (58, 23), (59, 24), (91, 26), (93, 27), (123, 30), (125, 31)] → SgnD t p o tt (p + 1) o
  | mt (tt : Int) : (byte t p, tt) ∈ [((36 : Int), (17 : Int)), (42, 18), (94, 16), (126, 14), (124, 15)] → byte t (p + 1) = 61 → SgnD t p o tt (p + 2) o
  | hash (tt : Int) (q : Nat) (o' : Bool) : byte t p = 35 → (isNm (byte t (p + 1)) = true → NoBs t → tt = 4 ∧ q = spanEnd t isNm (p + 1) ∧ o' = o) → (isNm (byte t (p + 1)) = false → NoBs t → tt = 9 ∧ q = p + 1 ∧ o' = o) → SgnD t p o tt q o'
  | del : (∀ c ∈ [(40 : Int), 41, 44, 58, 59, 91, 93, 123, 125, 35], byte t p ≠ c) → (∀ c ∈ [(36 : Int), 42, 94, 126, 124], byte t p = c → (byte t (p + 1) == 61) = false) → (byte t p ≠ 64 ∧ byte t p ≠ 60 ∧ ¬ (byte t p = 124 ∧ byte t (p + 1) = 124)) → SgnD t p o 9 (p + 1) o
def SgnK (R : Rx) (p : Nat) (o : Bool) (tt : Int) (q : Nat) (o' : Bool) : Prop := TokK R p tt q o' ∧ SgnD R.t p o tt q o'

/-- The signs that are tokens of their own. -/
def signWord : List UInt8 := [40, 41, 44, 58, 59, 91, 93, 123, 125]
theorem sign_lies (w : World) (o : Nat × Nat) (b : Nat) (hb : b = w.heap.size) : Lies (w.alloc (.cells #[.int .u8 40, .int .u8 41, .int .u8 44, .int .u8 58, .int .u8 59, .int .u8 91, .int .u8 93, .int .u8 123, .int .u8 125] 5 o)) b 0 signWord := by
  subst hb
  intro i hi
  have hi' : i < 9 := hi
  rw [Nat.zero_add, cell_at (alloc_new _ _)]
  match i, hi' with
  | 0, _ => rfl
  | 1, _ => rfl
  | 2, _ => rfl
  | 3, _ => rfl
  | 4, _ => rfl
  | 5, _ => rfl
  | 6, _ => rfl
  | 7, _ => rfl
  | 8, _ => rfl
theorem conv_new1 (w : World) (x : UInt8) (n : Int) (hn : n = x.toNat) : (convert 24 9 (.slice (some ⟨w.heap.size, 0, none⟩) 1 1)).run Tryz.prog (w.alloc (.cells #[.int .u8 n] 5)) = .ok (.string ⟨#[x]⟩) (w.alloc (.cells #[.int .u8 n] 5)) := by
  subst hn
  exact conv_one _ _ 0 1 x (by rw [cell_at (alloc_new _ _)]; rfl)
theorem conv_new2 (w : World) (x : UInt8) (n : Int) (hn : n = x.toNat) : (convert 24 9 (.slice (some ⟨w.heap.size, 0, none⟩) 2 2)).run Tryz.prog (w.alloc (.cells #[.int .u8 n, .int .u8 61] 5)) = .ok (.string ⟨#[x, 61]⟩) (w.alloc (.cells #[.int .u8 n, .int .u8 61] 5)) := by
  subst hn
  have := run_convert_bytes_arg (P := Tryz.prog) (w.alloc (.cells #[.int .u8 x.toNat, .int .u8 61] 5)) 24 5 Tryz.underlying24 Tryz.underlying5 w.heap.size 0 2 2 [(x.toNat : Int), 61] rfl (by
    intro i hi
    rw [cell_at (alloc_new _ _)]
    have hi' : i < 2 := hi
    match i, hi' with
    | 0, _ => rfl
    | 1, _ => rfl) 9 Tryz.underlying9
  rw [this]
  simp [strOfNums]

section
variable (R : Rx) (w0 w : World) (p : Nat) (o : Bool) (h : R.At w0 w p o)
include h
theorem has_R (b : Nat) (c : Int) (hl : Lies w b 0 signWord) (r : Bool) (hr : hasB signWord c = r) :
    Calls Tryz.prog 53 #[.slice (some ⟨b, 0, none⟩) 9 9, .int .u8 c] w fun e w' => e = .returned (.bool r) ∧ R.At w0 w' p o :=
  (has_n w b 0 9 9 signWord rfl hl (by omega) c r hr).mono fun _ _ ⟨a, b⟩ => ⟨a, b ▸ h⟩

set_option maxRecDepth 100000 in
set_option maxHeartbeats 2000000 in
theorem sign_40 (hc : byte R.t p = 40) : Calls Tryz.prog 115 #[.pointer (some ⟨R.g, 0, none⟩), .int .u8 40, .int .u8 (byte R.t (p + 1))] w (RTok R w0 p o (SgnK R p o)) := by
  have hlt := lt_of_byte (t := R.t) (p := p) (by rw [hc]; decide)
  have HC := Lib.hid hc
  clear hc
  have kc := fun (w : World) (C : Array Value) (n c : Nat) => Lib.run_convert_bytes_const (P := Tryz.prog) w 24 5 C n c Tryz.underlying24 Tryz.underlying5
  have kv := fun w => conv_new1 w 40 40 rfl
  cases h61 : (byte R.t (p + 1) == 61)
  all_goals
    go_enter Tryz.func115, Tryz.ntmps115
    go_wp2_with (first | (go_at_call 53; ((with_reducible refine (has_R R w0 _ p _ (Rx.At.alloc h _) _ _ (sign_lies _ _ _ (by simp)) true (by decide)).mono ?_); (rintro e w1 ⟨rfl, hA1⟩))) | (go_at_call 144; ((with_reducible refine (one_any R w0 _ p _ (Rx.At.alloc hA1 _) _ (by omega)).mono ?_); (rintro e w2 ⟨rfl, hA2⟩))))
    go_ret
    exact ⟨28, p + 1, o, rfl, hA2, by omega, id, by omega, fun _ _ _ _ => .br 40 28 HC.out (by simp), .one _ (by rw [HC.out]; simp)⟩

set_option maxRecDepth 100000 in
set_option maxHeartbeats 2000000 in
theorem sign_41 (hc : byte R.t p = 41) : Calls Tryz.prog 115 #[.pointer (some ⟨R.g, 0, none⟩), .int .u8 41, .int .u8 (byte R.t (p + 1))] w (RTok R w0 p o (SgnK R p o)) := by
  have hlt := lt_of_byte (t := R.t) (p := p) (by rw [hc]; decide)
  have HC := Lib.hid hc
  clear hc
  have kc := fun (w : World) (C : Array Value) (n c : Nat) => Lib.run_convert_bytes_const (P := Tryz.prog) w 24 5 C n c Tryz.underlying24 Tryz.underlying5
  have kv := fun w => conv_new1 w 41 41 rfl
  cases h61 : (byte R.t (p + 1) == 61)
  all_goals
    go_enter Tryz.func115, Tryz.ntmps115
    go_wp2_with (first | (go_at_call 53; ((with_reducible refine (has_R R w0 _ p _ (Rx.At.alloc h _) _ _ (sign_lies _ _ _ (by simp)) true (by decide)).mono ?_); (rintro e w1 ⟨rfl, hA1⟩))) | (go_at_call 144; ((with_reducible refine (one_any R w0 _ p _ (Rx.At.alloc hA1 _) _ (by omega)).mono ?_); (rintro e w2 ⟨rfl, hA2⟩))))
    go_ret
    exact ⟨29, p + 1, o, rfl, hA2, by omega, id, by omega, fun _ _ _ _ => .br 41 29 HC.out (by simp), .one _ (by rw [HC.out]; simp)⟩

set_option maxRecDepth 100000 in
set_option maxHeartbeats 2000000 in
theorem sign_44 (hc : byte R.t p = 44) : Calls Tryz.prog 115 #[.pointer (some ⟨R.g, 0, none⟩), .int .u8 44, .int .u8 (byte R.t (p + 1))] w (RTok R w0 p o (SgnK R p o)) := by
  have hlt := lt_of_byte (t := R.t) (p := p) (by rw [hc]; decide)
  have HC := Lib.hid hc
  clear hc
  have kc := fun (w : World) (C : Array Value) (n c : Nat) => Lib.run_convert_bytes_const (P := Tryz.prog) w 24 5 C n c Tryz.underlying24 Tryz.underlying5
  have kv := fun w => conv_new1 w 44 44 rfl
  cases h61 : (byte R.t (p + 1) == 61)
  all_goals
    go_enter Tryz.func115, Tryz.ntmps115
    go_wp2_with (first | (go_at_call 53; ((with_reducible refine (has_R R w0 _ p _ (Rx.At.alloc h _) _ _ (sign_lies _ _ _ (by simp)) true (by decide)).mono ?_); (rintro e w1 ⟨rfl, hA1⟩))) | (go_at_call 144; ((with_reducible refine (one_any R w0 _ p _ (Rx.At.alloc hA1 _) _ (by omega)).mono ?_); (rintro e w2 ⟨rfl, hA2⟩))))
    go_ret
    exact ⟨25, p + 1, o, rfl, hA2, by omega, id, by omega, fun _ _ _ _ => .one 44 25 HC.out (by simp), .one _ (by rw [HC.out]; simp)⟩

set_option maxRecDepth 100000 in
set_option maxHeartbeats 2000000 in
theorem sign_58 (hc : byte R.t p = 58) : Calls Tryz.prog 115 #[.pointer (some ⟨R.g, 0, none⟩), .int .u8 58, .int .u8 (byte R.t (p + 1))] w (RTok R w0 p o (SgnK R p o)) := by
  have hlt := lt_of_byte (t := R.t) (p := p) (by rw [hc]; decide)
  have HC := Lib.hid hc
  clear hc
  have kc := fun (w : World) (C : Array Value) (n c : Nat) => Lib.run_convert_bytes_const (P := Tryz.prog) w 24 5 C n c Tryz.underlying24 Tryz.underlying5
  have kv := fun w => conv_new1 w 58 58 rfl
  cases h61 : (byte R.t (p + 1) == 61)
  all_goals
    go_enter Tryz.func115, Tryz.ntmps115
    go_wp2_with (first | (go_at_call 53; ((with_reducible refine (has_R R w0 _ p _ (Rx.At.alloc h _) _ _ (sign_lies _ _ _ (by simp)) true (by decide)).mono ?_); (rintro e w1 ⟨rfl, hA1⟩))) | (go_at_call 144; ((with_reducible refine (one_any R w0 _ p _ (Rx.At.alloc hA1 _) _ (by omega)).mono ?_); (rintro e w2 ⟨rfl, hA2⟩))))
    go_ret
    exact ⟨23, p + 1, o, rfl, hA2, by omega, id, by omega, fun _ _ _ _ => .one 58 23 HC.out (by simp), .one _ (by rw [HC.out]; simp)⟩

set_option maxRecDepth 100000 in
set_option maxHeartbeats 2000000 in
theorem sign_59 (hc : byte R.t p = 59) : Calls Tryz.prog 115 #[.pointer (some ⟨R.g, 0, none⟩), .int .u8 59, .int .u8 (byte R.t (p + 1))] w (RTok R w0 p o (SgnK R p o)) := by
  have hlt := lt_of_byte (t := R.t) (p := p) (by rw [hc]; decide)
  have HC := Lib.hid hc
  clear hc
  have kc := fun (w : World) (C : Array Value) (n c : Nat) => Lib.run_convert_bytes_const (P := Tryz.prog) w 24 5 C n c Tryz.underlying24 Tryz.underlying5
  have kv := fun w => conv_new1 w 59 59 rfl
  cases h61 : (byte R.t (p + 1) == 61)
  all_goals
    go_enter Tryz.func115, Tryz.ntmps115
    go_wp2_with (first | (go_at_call 53; ((with_reducible refine (has_R R w0 _ p _ (Rx.At.alloc h _) _ _ (sign_lies _ _ _ (by simp)) true (by decide)).mono ?_); (rintro e w1 ⟨rfl, hA1⟩))) | (go_at_call 144; ((with_reducible refine (one_any R w0 _ p _ (Rx.At.alloc hA1 _) _ (by omega)).mono ?_); (rintro e w2 ⟨rfl, hA2⟩))))
    go_ret
    exact ⟨24, p + 1, o, rfl, hA2, by omega, id, by omega, fun _ _ _ _ => .one 59 24 HC.out (by simp), .one _ (by rw [HC.out]; simp)⟩

set_option maxRecDepth 100000 in
set_option maxHeartbeats 2000000 in
theorem sign_91 (hc : byte R.t p = 91) : Calls Tryz.prog 115 #[.pointer (some ⟨R.g, 0, none⟩), .int .u8 91, .int .u8 (byte R.t (p + 1))] w (RTok R w0 p o (SgnK R p o)) := by
  have hlt := lt_of_byte (t := R.t) (p := p) (by rw [hc]; decide)
  have HC := Lib.hid hc
  clear hc
  have kc := fun (w : World) (C : Array Value) (n c : Nat) => Lib.run_convert_bytes_const (P := Tryz.prog) w 24 5 C n c Tryz.underlying24 Tryz.underlying5
  have kv := fun w => conv_new1 w 91 91 rfl
  cases h61 : (byte R.t (p + 1) == 61)
  all_goals
    go_enter Tryz.func115, Tryz.ntmps115
    go_wp2_with (first | (go_at_call 53; ((with_reducible refine (has_R R w0 _ p _ (Rx.At.alloc h _) _ _ (sign_lies _ _ _ (by simp)) true (by decide)).mono ?_); (rintro e w1 ⟨rfl, hA1⟩))) | (go_at_call 144; ((with_reducible refine (one_any R w0 _ p _ (Rx.At.alloc hA1 _) _ (by omega)).mono ?_); (rintro e w2 ⟨rfl, hA2⟩))))
    go_ret
    exact ⟨26, p + 1, o, rfl, hA2, by omega, id, by omega, fun _ _ _ _ => .br 91 26 HC.out (by simp), .one _ (by rw [HC.out]; simp)⟩

set_option maxRecDepth 100000 in
set_option maxHeartbeats 2000000 in
theorem sign_93 (hc : byte R.t p = 93) : Calls Tryz.prog 115 #[.pointer (some ⟨R.g, 0, none⟩), .int .u8 93, .int .u8 (byte R.t (p + 1))] w (RTok R w0 p o (SgnK R p o)) := by
  have hlt := lt_of_byte (t := R.t) (p := p) (by rw [hc]; decide)
  have HC := Lib.hid hc
  clear hc
  have kc := fun (w : World) (C : Array Value) (n c : Nat) => Lib.run_convert_bytes_const (P := Tryz.prog) w 24 5 C n c Tryz.underlying24 Tryz.underlying5
  have kv := fun w => conv_new1 w 93 93 rfl
  cases h61 : (byte R.t (p + 1) == 61)
  all_goals
    go_enter Tryz.func115, Tryz.ntmps115
    go_wp2_with (first | (go_at_call 53; ((with_reducible refine (has_R R w0 _ p _ (Rx.At.alloc h _) _ _ (sign_lies _ _ _ (by simp)) true (by decide)).mono ?_); (rintro e w1 ⟨rfl, hA1⟩))) | (go_at_call 144; ((with_reducible refine (one_any R w0 _ p _ (Rx.At.alloc hA1 _) _ (by omega)).mono ?_); (rintro e w2 ⟨rfl, hA2⟩))))
    go_ret
    exact ⟨27, p + 1, o, rfl, hA2, by omega, id, by omega, fun _ _ _ _ => .br 93 27 HC.out (by simp), .one _ (by rw [HC.out]; simp)⟩

set_option maxRecDepth 100000 in
set_option maxHeartbeats 2000000 in
theorem sign_123 (hc : byte R.t p = 123) : Calls Tryz.prog 115 #[.pointer (some ⟨R.g, 0, none⟩), .int .u8 123, .int .u8 (byte R.t (p + 1))] w (RTok R w0 p o (SgnK R p o)) := by
  have hlt := lt_of_byte (t := R.t) (p := p) (by rw [hc]; decide)
  have HC := Lib.hid hc
  clear hc
  have kc := fun (w : World) (C : Array Value) (n c : Nat) => Lib.run_convert_bytes_const (P := Tryz.prog) w 24 5 C n c Tryz.underlying24 Tryz.underlying5
  have kv := fun w => conv_new1 w 123 123 rfl
  cases h61 : (byte R.t (p + 1) == 61)
  all_goals
    go_enter Tryz.func115, Tryz.ntmps115
    go_wp2_with (first | (go_at_call 53; ((with_reducible refine (has_R R w0 _ p _ (Rx.At.alloc h _) _ _ (sign_lies _ _ _ (by simp)) true (by decide)).mono ?_); (rintro e w1 ⟨rfl, hA1⟩))) | (go_at_call 144; ((with_reducible refine (one_any R w0 _ p _ (Rx.At.alloc hA1 _) _ (by omega)).mono ?_); (rintro e w2 ⟨rfl, hA2⟩))))
    go_ret
    exact ⟨30, p + 1, o, rfl, hA2, by omega, id, by omega, fun _ _ _ _ => .br 123 30 HC.out (by simp), .one _ (by rw [HC.out]; simp)⟩

set_option maxRecDepth 100000 in
set_option maxHeartbeats 2000000 in
theorem sign_125 (hc : byte R.t p = 125) : Calls Tryz.prog 115 #[.pointer (some ⟨R.g, 0, none⟩), .int .u8 125, .int .u8 (byte R.t (p + 1))] w (RTok R w0 p o (SgnK R p o)) := by
  have hlt := lt_of_byte (t := R.t) (p := p) (by rw [hc]; decide)
  have HC := Lib.hid hc
  clear hc
  have kc := fun (w : World) (C : Array Value) (n c : Nat) => Lib.run_convert_bytes_const (P := Tryz.prog) w 24 5 C n c Tryz.underlying24 Tryz.underlying5
  have kv := fun w => conv_new1 w 125 125 rfl
  cases h61 : (byte R.t (p + 1) == 61)
  all_goals
    go_enter Tryz.func115, Tryz.ntmps115
    go_wp2_with (first | (go_at_call 53; ((with_reducible refine (has_R R w0 _ p _ (Rx.At.alloc h _) _ _ (sign_lies _ _ _ (by simp)) true (by decide)).mono ?_); (rintro e w1 ⟨rfl, hA1⟩))) | (go_at_call 144; ((with_reducible refine (one_any R w0 _ p _ (Rx.At.alloc hA1 _) _ (by omega)).mono ?_); (rintro e w2 ⟨rfl, hA2⟩))))
    go_ret
    exact ⟨31, p + 1, o, rfl, hA2, by omega, id, by omega, fun _ _ _ _ => .br 125 31 HC.out (by simp), .one _ (by rw [HC.out]; simp)⟩

set_option maxRecDepth 100000 in
set_option maxHeartbeats 2000000 in
theorem sign_126 (hc : byte R.t p = 126) : Calls Tryz.prog 115 #[.pointer (some ⟨R.g, 0, none⟩), .int .u8 126, .int .u8 (byte R.t (p + 1))] w (RTok R w0 p o (SgnK R p o)) := by
  have hlt := lt_of_byte (t := R.t) (p := p) (by rw [hc]; decide)
  have HC := Lib.hid hc
  clear hc
  have kc := fun (w : World) (C : Array Value) (n c : Nat) => Lib.run_convert_bytes_const (P := Tryz.prog) w 24 5 C n c Tryz.underlying24 Tryz.underlying5
  have kv := fun w => conv_new2 w 126 126 rfl
  cases h61 : (byte R.t (p + 1) == 61) with
  | true =>
    have HN := Lib.hid (beq_iff_eq.1 h61)
    have hlt2 := lt_of_byte (t := R.t) (p := p + 1) (by rw [beq_iff_eq.1 h61]; decide)
    go_enter Tryz.func115, Tryz.ntmps115
    go_wp2_with (first | (go_at_call 143; ((with_reducible refine (two_any R w0 _ p _ (Rx.At.alloc h _) _ (by omega)).mono ?_); (rintro e w2 ⟨rfl, hA2⟩))))
    go_ret
    exact ⟨14, p + 2, o, rfl, hA2, by omega, id, by omega, fun _ _ _ _ => .mt 126 14 HC.out HN.out (by simp), .mt _ (by rw [HC.out]; simp) HN.out⟩
  | false =>
    have HN := Lib.hid h61
    go_enter Tryz.func115, Tryz.ntmps115
    go_wp2_with (first | (go_at_call 53; ((with_reducible refine (has_R R w0 _ p _ (Rx.At.alloc h _) _ _ (sign_lies _ _ _ (by simp)) false (by decide)).mono ?_); (rintro e w1 ⟨rfl, hA1⟩))) | (go_at_call 144; ((with_reducible refine (one_any R w0 _ p _ hA1 _ (by omega)).mono ?_); (rintro e w2 ⟨rfl, hA2⟩))))
    go_ret
    exact ⟨9, p + 1, o, rfl, hA2, by omega, id, by omega, fun _ _ _ _ => .mdel (by have := HC.out; omega) HN.out, .del (by rw [HC.out]; decide) (fun _ _ _ => HN.out) ⟨by rw [HC.out]; decide, by rw [HC.out]; decide, fun hx => absurd (HC.out.symm.trans hx.1) (by decide)⟩⟩

set_option maxRecDepth 100000 in
set_option maxHeartbeats 2000000 in
theorem sign_124 (hc : byte R.t p = 124) (h124 : (byte R.t (p + 1) == 124) = false) : Calls Tryz.prog 115 #[.pointer (some ⟨R.g, 0, none⟩), .int .u8 124, .int .u8 (byte R.t (p + 1))] w (RTok R w0 p o (SgnK R p o)) := by
  have hlt := lt_of_byte (t := R.t) (p := p) (by rw [hc]; decide)
  have HC := Lib.hid hc
  clear hc
  have kc := fun (w : World) (C : Array Value) (n c : Nat) => Lib.run_convert_bytes_const (P := Tryz.prog) w 24 5 C n c Tryz.underlying24 Tryz.underlying5
  have kv := fun w => conv_new2 w 124 124 rfl
  cases h61 : (byte R.t (p + 1) == 61) with
  | true =>
    have HN := Lib.hid (beq_iff_eq.1 h61)
    have hlt2 := lt_of_byte (t := R.t) (p := p + 1) (by rw [beq_iff_eq.1 h61]; decide)
    go_enter Tryz.func115, Tryz.ntmps115
    go_wp2_with (first | (go_at_call 143; ((with_reducible refine (two_any R w0 _ p _ (Rx.At.alloc h _) _ (by omega)).mono ?_); (rintro e w2 ⟨rfl, hA2⟩))))
    go_ret
    exact ⟨15, p + 2, o, rfl, hA2, by omega, id, by omega, fun _ _ _ _ => .mt 124 15 HC.out HN.out (by simp), .mt _ (by rw [HC.out]; simp) HN.out⟩
  | false =>
    have HN := Lib.hid h61
    have H124 := Lib.hid h124
    go_enter Tryz.func115, Tryz.ntmps115
    go_wp2_with (first | (go_at_call 53; ((with_reducible refine (has_R R w0 _ p _ (Rx.At.alloc h _) _ _ (sign_lies _ _ _ (by simp)) false (by decide)).mono ?_); (rintro e w1 ⟨rfl, hA1⟩))) | (go_at_call 144; ((with_reducible refine (one_any R w0 _ p _ hA1 _ (by omega)).mono ?_); (rintro e w2 ⟨rfl, hA2⟩))))
    go_ret
    exact ⟨9, p + 1, o, rfl, hA2, by omega, id, by omega, fun _ _ _ ha => absurd (ha.2 rfl) (by rw [HC.out]; decide), .del (by rw [HC.out]; decide) (fun _ _ _ => HN.out) ⟨by rw [HC.out]; decide, by rw [HC.out]; decide, fun hx => beq_eq_false_iff_ne.1 H124.out hx.2⟩⟩

set_option maxRecDepth 100000 in
set_option maxHeartbeats 2000000 in
theorem sign_94 (hc : byte R.t p = 94) : Calls Tryz.prog 115 #[.pointer (some ⟨R.g, 0, none⟩), .int .u8 94, .int .u8 (byte R.t (p + 1))] w (RTok R w0 p o (SgnK R p o)) := by
  have hlt := lt_of_byte (t := R.t) (p := p) (by rw [hc]; decide)
  have HC := Lib.hid hc
  clear hc
  have kc := fun (w : World) (C : Array Value) (n c : Nat) => Lib.run_convert_bytes_const (P := Tryz.prog) w 24 5 C n c Tryz.underlying24 Tryz.underlying5
  have kv := fun w => conv_new2 w 94 94 rfl
  cases h61 : (byte R.t (p + 1) == 61) with
  | true =>
    have HN := Lib.hid (beq_iff_eq.1 h61)
    have hlt2 := lt_of_byte (t := R.t) (p := p + 1) (by rw [beq_iff_eq.1 h61]; decide)
    go_enter Tryz.func115, Tryz.ntmps115
    go_wp2_with (first | (go_at_call 143; ((with_reducible refine (two_any R w0 _ p _ (Rx.At.alloc h _) _ (by omega)).mono ?_); (rintro e w2 ⟨rfl, hA2⟩))))
    go_ret
    exact ⟨16, p + 2, o, rfl, hA2, by omega, id, by omega, fun _ _ _ _ => .mt 94 16 HC.out HN.out (by simp), .mt _ (by rw [HC.out]; simp) HN.out⟩
  | false =>
    have HN := Lib.hid h61
    go_enter Tryz.func115, Tryz.ntmps115
    go_wp2_with (first | (go_at_call 53; ((with_reducible refine (has_R R w0 _ p _ (Rx.At.alloc h _) _ _ (sign_lies _ _ _ (by simp)) false (by decide)).mono ?_); (rintro e w1 ⟨rfl, hA1⟩))) | (go_at_call 144; ((with_reducible refine (one_any R w0 _ p _ hA1 _ (by omega)).mono ?_); (rintro e w2 ⟨rfl, hA2⟩))))
    go_ret
    exact ⟨9, p + 1, o, rfl, hA2, by omega, id, by omega, fun _ _ _ ha => absurd (ha.2 rfl) (by rw [HC.out]; decide), .del (by rw [HC.out]; decide) (fun _ _ _ => HN.out) ⟨by rw [HC.out]; decide, by rw [HC.out]; decide, fun hx => absurd (HC.out.symm.trans hx.1) (by decide)⟩⟩

set_option maxRecDepth 100000 in
set_option maxHeartbeats 2000000 in
theorem sign_36 (hc : byte R.t p = 36) : Calls Tryz.prog 115 #[.pointer (some ⟨R.g, 0, none⟩), .int .u8 36, .int .u8 (byte R.t (p + 1))] w (RTok R w0 p o (SgnK R p o)) := by
  have hlt := lt_of_byte (t := R.t) (p := p) (by rw [hc]; decide)
  have HC := Lib.hid hc
  clear hc
  have kc := fun (w : World) (C : Array Value) (n c : Nat) => Lib.run_convert_bytes_const (P := Tryz.prog) w 24 5 C n c Tryz.underlying24 Tryz.underlying5
  have kv := fun w => conv_new2 w 36 36 rfl
  cases h61 : (byte R.t (p + 1) == 61) with
  | true =>
    have HN := Lib.hid (beq_iff_eq.1 h61)
    have hlt2 := lt_of_byte (t := R.t) (p := p + 1) (by rw [beq_iff_eq.1 h61]; decide)
    go_enter Tryz.func115, Tryz.ntmps115
    go_wp2_with (first | (go_at_call 143; ((with_reducible refine (two_any R w0 _ p _ (Rx.At.alloc h _) _ (by omega)).mono ?_); (rintro e w2 ⟨rfl, hA2⟩))))
    go_ret
    exact ⟨17, p + 2, o, rfl, hA2, by omega, id, by omega, fun _ _ _ _ => .mt 36 17 HC.out HN.out (by simp), .mt _ (by rw [HC.out]; simp) HN.out⟩
  | false =>
    have HN := Lib.hid h61
    go_enter Tryz.func115, Tryz.ntmps115
    go_wp2_with (first | (go_at_call 53; ((with_reducible refine (has_R R w0 _ p _ (Rx.At.alloc h _) _ _ (sign_lies _ _ _ (by simp)) false (by decide)).mono ?_); (rintro e w1 ⟨rfl, hA1⟩))) | (go_at_call 144; ((with_reducible refine (one_any R w0 _ p _ hA1 _ (by omega)).mono ?_); (rintro e w2 ⟨rfl, hA2⟩))))
    go_ret
    exact ⟨9, p + 1, o, rfl, hA2, by omega, id, by omega, fun _ _ _ ha => absurd (ha.2 rfl) (by rw [HC.out]; decide), .del (by rw [HC.out]; decide) (fun _ _ _ => HN.out) ⟨by rw [HC.out]; decide, by rw [HC.out]; decide, fun hx => absurd (HC.out.symm.trans hx.1) (by decide)⟩⟩

set_option maxRecDepth 100000 in
set_option maxHeartbeats 2000000 in
theorem sign_42 (hc : byte R.t p = 42) : Calls Tryz.prog 115 #[.pointer (some ⟨R.g, 0, none⟩), .int .u8 42, .int .u8 (byte R.t (p + 1))] w (RTok R w0 p o (SgnK R p o)) := by
  have hlt := lt_of_byte (t := R.t) (p := p) (by rw [hc]; decide)
  have HC := Lib.hid hc
  clear hc
  have kc := fun (w : World) (C : Array Value) (n c : Nat) => Lib.run_convert_bytes_const (P := Tryz.prog) w 24 5 C n c Tryz.underlying24 Tryz.underlying5
  have kv := fun w => conv_new2 w 42 42 rfl
  cases h61 : (byte R.t (p + 1) == 61) with
  | true =>
    have HN := Lib.hid (beq_iff_eq.1 h61)
    have hlt2 := lt_of_byte (t := R.t) (p := p + 1) (by rw [beq_iff_eq.1 h61]; decide)
    go_enter Tryz.func115, Tryz.ntmps115
    go_wp2_with (first | (go_at_call 143; ((with_reducible refine (two_any R w0 _ p _ (Rx.At.alloc h _) _ (by omega)).mono ?_); (rintro e w2 ⟨rfl, hA2⟩))))
    go_ret
    exact ⟨18, p + 2, o, rfl, hA2, by omega, id, by omega, fun _ _ _ _ => .mt 42 18 HC.out HN.out (by simp), .mt _ (by rw [HC.out]; simp) HN.out⟩
  | false =>
    have HN := Lib.hid h61
    go_enter Tryz.func115, Tryz.ntmps115
    go_wp2_with (first | (go_at_call 53; ((with_reducible refine (has_R R w0 _ p _ (Rx.At.alloc h _) _ _ (sign_lies _ _ _ (by simp)) false (by decide)).mono ?_); (rintro e w1 ⟨rfl, hA1⟩))) | (go_at_call 144; ((with_reducible refine (one_any R w0 _ p _ hA1 _ (by omega)).mono ?_); (rintro e w2 ⟨rfl, hA2⟩))))
    go_ret
    exact ⟨9, p + 1, o, rfl, hA2, by omega, id, by omega, fun _ _ _ _ => .mdel (by have := HC.out; omega) HN.out, .del (by rw [HC.out]; decide) (fun _ _ _ => HN.out) ⟨by rw [HC.out]; decide, by rw [HC.out]; decide, fun hx => absurd (HC.out.symm.trans hx.1) (by decide)⟩⟩

set_option maxRecDepth 100000 in
set_option maxHeartbeats 2000000 in
theorem sign_bar (hc : byte R.t p = 124) (h124 : (byte R.t (p + 1) == 124) = true) : Calls Tryz.prog 115 #[.pointer (some ⟨R.g, 0, none⟩), .int .u8 124, .int .u8 (byte R.t (p + 1))] w (RTok R w0 p o (SgnK R p o)) := by
  have hlt := lt_of_byte (t := R.t) (p := p) (by rw [hc]; decide)
  have hlt2 := lt_of_byte (t := R.t) (p := p + 1) (by rw [beq_iff_eq.1 h124]; decide)
  have HC := Lib.hid hc
  have HN := Lib.hid (beq_iff_eq.1 h124)
  clear hc
  go_enter Tryz.func115, Tryz.ntmps115
  go_wp2_with (first | (go_at_call 143; ((with_reducible refine (two_any R w0 _ p _ h _ (by omega)).mono ?_); (rintro e w2 ⟨rfl, hA2⟩))))
  go_ret
  exact ⟨19, p + 2, o, rfl, hA2, by omega, id, by omega, fun _ _ _ ha => absurd rfl ha.1.2.2.1, .sp _ _ _ (.inr (.inr ⟨HC.out, HN.out⟩)) (fun _ => ⟨fun hs => by have := HC.out; unfold Sp9 at hs; omega, fun _ => by decide⟩)⟩

set_option maxRecDepth 100000 in
set_option maxHeartbeats 2000000 in
theorem sign_60 (hc : byte R.t p = 60) : Calls Tryz.prog 115 #[.pointer (some ⟨R.g, 0, none⟩), .int .u8 60, .int .u8 (byte R.t (p + 1))] w (RTok R w0 p o (SgnK R p o)) := by
  have hlt := lt_of_byte (t := R.t) (p := p) (by rw [hc]; decide)
  have hbig := h.big
  have hcp := h.cp
  have HC := Lib.hid hc
  clear hc
  have kc := fun (w : World) (C : Array Value) (n c : Nat) => Lib.run_convert_bytes_const (P := Tryz.prog) w 24 5 C n c Tryz.underlying24 Tryz.underlying5
  cases h33 : (byte R.t (p + 1) == 33) with
  | false =>
    have HX := Lib.hid (show ¬ (byte R.t (p + 1) = 33 ∧ byte R.t (p + 2) = 45 ∧ byte R.t (p + 3) = 45) from fun hx => beq_eq_false_iff_ne.1 h33 hx.1)
    cases h61 : (byte R.t (p + 1) == 61)
    all_goals
      go_enter Tryz.func115, Tryz.ntmps115
      go_wp2_with (first | (go_at_call 104; ((with_reducible refine ((rpeek2 R w0 _ _ _ (by first | exact Rx.At.inc1 (by assumption) (by omega) | exact Rx.At.inc2 (by assumption) (by omega) | exact Rx.At.set2 (by assumption) _ | assumption))).mono ?_); (rintro e w' ⟨rfl, hA⟩); (have r0 := Rx.At.c0 hA; have r1 := Rx.At.c1 hA; have r2 := Rx.At.c2 hA; have rf := Rx.At.f hA))) | (go_at_call 104; ((with_reducible refine ((rpeek3 R w0 _ _ _ (by first | exact Rx.At.inc1 (by assumption) (by omega) | exact Rx.At.inc2 (by assumption) (by omega) | exact Rx.At.set2 (by assumption) _ | assumption))).mono ?_); (rintro e w' ⟨rfl, hA⟩); (have r0 := Rx.At.c0 hA; have r1 := Rx.At.c1 hA; have r2 := Rx.At.c2 hA; have rf := Rx.At.f hA))) | (go_at_call 53; ((with_reducible refine (has_R R w0 _ p _ (Rx.At.alloc h _) _ _ (sign_lies _ _ _ (by simp)) false (by decide)).mono ?_); (rintro e w1 ⟨rfl, hA1⟩))) | (go_at_call 144; ((with_reducible refine (one_any R w0 _ p _ hA1 _ (by omega)).mono ?_); (rintro e w2 ⟨rfl, hA2⟩))))
      go_ret
      exact ⟨9, p + 1, o, rfl, hA2, by omega, id, by omega, fun _ _ _ ha => absurd (ha.2 rfl) (by rw [HC.out]; decide), .sp _ _ _ (.inr (.inl HC.out)) (fun _ => ⟨fun _ => ⟨rfl, rfl, idS_no HC.out⟩, fun hn => absurd (.inr ⟨HC.out, HX.out⟩) hn⟩)⟩
  | true =>
    have h61 : (byte R.t (p + 1) == 61) = false := by rw [beq_iff_eq.1 h33]; rfl
    cases h2 : (byte R.t (p + 2) == 45) with
    | false =>
      have HX := Lib.hid (show ¬ (byte R.t (p + 1) = 33 ∧ byte R.t (p + 2) = 45 ∧ byte R.t (p + 3) = 45) from fun hx => beq_eq_false_iff_ne.1 h2 hx.2.1)
      go_enter Tryz.func115, Tryz.ntmps115
      go_wp2_with (first | (go_at_call 104; ((with_reducible refine ((rpeek2 R w0 _ _ _ (by first | exact Rx.At.inc1 (by assumption) (by omega) | exact Rx.At.inc2 (by assumption) (by omega) | exact Rx.At.set2 (by assumption) _ | assumption))).mono ?_); (rintro e w' ⟨rfl, hA⟩); (have r0 := Rx.At.c0 hA; have r1 := Rx.At.c1 hA; have r2 := Rx.At.c2 hA; have rf := Rx.At.f hA))) | (go_at_call 104; ((with_reducible refine ((rpeek3 R w0 _ _ _ (by first | exact Rx.At.inc1 (by assumption) (by omega) | exact Rx.At.inc2 (by assumption) (by omega) | exact Rx.At.set2 (by assumption) _ | assumption))).mono ?_); (rintro e w' ⟨rfl, hA⟩); (have r0 := Rx.At.c0 hA; have r1 := Rx.At.c1 hA; have r2 := Rx.At.c2 hA; have rf := Rx.At.f hA))) | (go_at_call 53; ((with_reducible refine (has_R R w0 _ p _ (Rx.At.alloc (by assumption) _) _ _ (sign_lies _ _ _ (by simp)) false (by decide)).mono ?_); (rintro e w1 ⟨rfl, hA1⟩))) | (go_at_call 144; ((with_reducible refine (one_any R w0 _ p _ hA1 _ (by omega)).mono ?_); (rintro e w2 ⟨rfl, hA2⟩))))
      go_ret
      exact ⟨9, p + 1, o, rfl, hA2, by omega, id, by omega, fun _ _ _ ha => absurd (ha.2 rfl) (by rw [HC.out]; decide), .sp _ _ _ (.inr (.inl HC.out)) (fun _ => ⟨fun _ => ⟨rfl, rfl, idS_no HC.out⟩, fun hn => absurd (.inr ⟨HC.out, HX.out⟩) hn⟩)⟩
    | true =>
      cases h3 : (byte R.t (p + 3) == 45) with
      | false =>
        have HX := Lib.hid (show ¬ (byte R.t (p + 1) = 33 ∧ byte R.t (p + 2) = 45 ∧ byte R.t (p + 3) = 45) from fun hx => beq_eq_false_iff_ne.1 h3 hx.2.2)
        go_enter Tryz.func115, Tryz.ntmps115
        go_wp2_with (first | (go_at_call 104; ((with_reducible refine ((rpeek2 R w0 _ _ _ (by first | exact Rx.At.inc1 (by assumption) (by omega) | exact Rx.At.inc2 (by assumption) (by omega) | exact Rx.At.set2 (by assumption) _ | assumption))).mono ?_); (rintro e w' ⟨rfl, hA⟩); (have r0 := Rx.At.c0 hA; have r1 := Rx.At.c1 hA; have r2 := Rx.At.c2 hA; have rf := Rx.At.f hA))) | (go_at_call 104; ((with_reducible refine ((rpeek3 R w0 _ _ _ (by first | exact Rx.At.inc1 (by assumption) (by omega) | exact Rx.At.inc2 (by assumption) (by omega) | exact Rx.At.set2 (by assumption) _ | assumption))).mono ?_); (rintro e w' ⟨rfl, hA⟩); (have r0 := Rx.At.c0 hA; have r1 := Rx.At.c1 hA; have r2 := Rx.At.c2 hA; have rf := Rx.At.f hA))) | (go_at_call 53; ((with_reducible refine (has_R R w0 _ p _ (Rx.At.alloc (by assumption) _) _ _ (sign_lies _ _ _ (by simp)) false (by decide)).mono ?_); (rintro e w1 ⟨rfl, hA1⟩))) | (go_at_call 144; ((with_reducible refine (one_any R w0 _ p _ hA1 _ (by omega)).mono ?_); (rintro e w2 ⟨rfl, hA2⟩))))
        go_ret
        exact ⟨9, p + 1, o, rfl, hA2, by omega, id, by omega, fun _ _ _ ha => absurd (ha.2 rfl) (by rw [HC.out]; decide), .sp _ _ _ (.inr (.inl HC.out)) (fun _ => ⟨fun _ => ⟨rfl, rfl, idS_no HC.out⟩, fun hn => absurd (.inr ⟨HC.out, HX.out⟩) hn⟩)⟩
      | true =>
        have hlt2 := lt_of_byte (t := R.t) (p := p + 3) (by rw [beq_iff_eq.1 h3]; decide)
        have HX := Lib.hid (show byte R.t (p + 1) = 33 ∧ byte R.t (p + 2) = 45 ∧ byte R.t (p + 3) = 45 from ⟨beq_iff_eq.1 h33, beq_iff_eq.1 h2, beq_iff_eq.1 h3⟩)
        go_enter Tryz.func115, Tryz.ntmps115
        go_wp2_with (first | (go_at_call 104; ((with_reducible refine ((rpeek2 R w0 _ _ _ (by first | exact Rx.At.inc1 (by assumption) (by omega) | exact Rx.At.inc2 (by assumption) (by omega) | exact Rx.At.set2 (by assumption) _ | assumption))).mono ?_); (rintro e w' ⟨rfl, hA⟩); (have r0 := Rx.At.c0 hA; have r1 := Rx.At.c1 hA; have r2 := Rx.At.c2 hA; have rf := Rx.At.f hA))) | (go_at_call 104; ((with_reducible refine ((rpeek3 R w0 _ _ _ (by first | exact Rx.At.inc1 (by assumption) (by omega) | exact Rx.At.inc2 (by assumption) (by omega) | exact Rx.At.set2 (by assumption) _ | assumption))).mono ?_); (rintro e w' ⟨rfl, hA⟩); (have r0 := Rx.At.c0 hA; have r1 := Rx.At.c1 hA; have r2 := Rx.At.c2 hA; have rf := Rx.At.f hA))))
        go_ret
        exact ⟨21, p + 4, o, rfl, Rx.At.inc4 (by assumption) (by omega), by omega, id, by omega, fun _ _ _ ha => absurd rfl ha.1.2.2.2.1, .sp _ _ _ (.inr (.inl HC.out)) (fun _ => ⟨fun hs => by rcases hs with hs | hs; exact absurd (HC.out.symm.trans hs.1) (by decide); exact absurd HX.out hs.2, fun _ => by decide⟩)⟩

set_option maxRecDepth 100000 in
set_option maxHeartbeats 2000000 in
theorem sign_64 (hc : byte R.t p = 64) : Calls Tryz.prog 115 #[.pointer (some ⟨R.g, 0, none⟩), .int .u8 64, .int .u8 (byte R.t (p + 1))] w (RTok R w0 p o (SgnK R p o)) := by
  have hlt := lt_of_byte (t := R.t) (p := p) (by rw [hc]; decide)
  have hbig := h.big
  have hcp := h.cp
  have HC := Lib.hid hc
  clear hc
  have kc := fun (w : World) (C : Array Value) (n c : Nat) => Lib.run_convert_bytes_const (P := Tryz.prog) w 24 5 C n c Tryz.underlying24 Tryz.underlying5
  cases hid : idB R.t (p + 1) with
  | true =>
    have HI := Lib.hid hid
    have HN := fun (w' : World) (o' : Bool) (hA : R.At w0 w' (p + 1) o') => name_any R w0 w' (p + 1) o' hA
    go_enter Tryz.func115, Tryz.ntmps115
    go_wp2_with (first | (go_at_call 113; ((with_reducible refine ((ident1 R w0 _ _ _ (by first | exact Rx.At.inc1 (by assumption) (by omega) | exact Rx.At.inc2 (by assumption) (by omega) | exact Rx.At.set2 (by assumption) _ | assumption))).mono ?_); (rintro e w' ⟨rfl, hA⟩); (have r0 := Rx.At.c0 hA; have r1 := Rx.At.c1 hA; have r2 := Rx.At.c2 hA; have rf := Rx.At.f hA))) | (go_at_call 139; ((with_reducible refine (HN _ _ (Rx.At.inc1 (by assumption) (by omega))).mono ?_); (rintro e w' ⟨rfl, q, o2, hA, hq, ho2, hnb, hgo⟩))))
    go_ret
    exact ⟨3, q, o2, rfl, hA, by omega, fun ho => ho2 (by rw [ho]; rfl), by omega, fun _ _ _ ha => absurd rfl ha.1.1, .sp _ _ _ (.inl HC.out) (fun _ => ⟨fun hs => by rcases hs with hs | hs; exact absurd (HI.out.symm.trans hs.2) (by decide); exact absurd (HC.out.symm.trans hs.1) (by decide), fun _ => by decide⟩)⟩
  | false =>
    have HI := Lib.hid hid
    cases h61 : (byte R.t (p + 1) == 61)
    all_goals
      go_enter Tryz.func115, Tryz.ntmps115
      go_wp2_with (first | (go_at_call 113; ((with_reducible refine ((ident1 R w0 _ _ _ (by first | exact Rx.At.inc1 (by assumption) (by omega) | exact Rx.At.inc2 (by assumption) (by omega) | exact Rx.At.set2 (by assumption) _ | assumption))).mono ?_); (rintro e w' ⟨rfl, hA⟩); (have r0 := Rx.At.c0 hA; have r1 := Rx.At.c1 hA; have r2 := Rx.At.c2 hA; have rf := Rx.At.f hA))) | (go_at_call 53; ((with_reducible refine (has_R R w0 _ p _ (Rx.At.alloc (by assumption) _) _ _ (sign_lies _ _ _ (by simp)) false (by decide)).mono ?_); (rintro e w1 ⟨rfl, hA1⟩))) | (go_at_call 144; ((with_reducible refine (one_any R w0 _ p _ hA1 _ (by omega)).mono ?_); (rintro e w2 ⟨rfl, hA2⟩))))
      go_ret
      exact ⟨9, p + 1, _, rfl, hA2, by omega, fun ho => by rw [ho]; rfl, by omega, fun _ _ _ ha => absurd (ha.2 rfl) (by rw [HC.out]; decide), .sp _ _ _ (.inl HC.out) (fun _ => ⟨fun _ => ⟨rfl, rfl, idS_yes HC.out⟩, fun hn => absurd (.inl ⟨HC.out, HI.out⟩) hn⟩)⟩

set_option maxRecDepth 100000 in
set_option maxHeartbeats 2000000 in
theorem sign_35 (hc : byte R.t p = 35) : Calls Tryz.prog 115 #[.pointer (some ⟨R.g, 0, none⟩), .int .u8 35, .int .u8 (byte R.t (p + 1))] w (RTok R w0 p o (SgnK R p o)) := by
  have hlt := lt_of_byte (t := R.t) (p := p) (by rw [hc]; decide)
  have hbig := h.big
  have hcp := h.cp
  have r1 := h.c1
  have rf := h.f
  have HC := Lib.hid hc
  clear hc
  have kc := fun (w : World) (C : Array Value) (n c : Nat) => Lib.run_convert_bytes_const (P := Tryz.prog) w 24 5 C n c Tryz.underlying24 Tryz.underlying5
  have HN := fun (w' : World) (o' : Bool) (hA : R.At w0 w' (p + 1) o') => name_any R w0 w' (p + 1) o' hA
  cases hnm : isNm (byte R.t (p + 1)) with
  | true =>
    have HNM := Lib.hid hnm
    go_enter Tryz.func115, Tryz.ntmps115
    go_wp2_with (first | (go_at_call 142; ((with_reducible refine ((nameByte_any _ _ (byte_lo _ _) (byte_hi _ _))).mono ?_); (rintro e w' ⟨rfl, rfl⟩))) | (go_at_call 135; ((with_reducible refine ((escapes1 R w0 _ _ _ (by first | exact Rx.At.inc1 (by assumption) (by omega) | exact Rx.At.inc2 (by assumption) (by omega) | exact Rx.At.set2 (by assumption) _ | assumption))).mono ?_); (rintro e w' ⟨rfl, hA⟩); (have r0 := Rx.At.c0 hA; have r1 := Rx.At.c1 hA; have r2 := Rx.At.c2 hA; have rf := Rx.At.f hA))) | (go_at_call 139; ((with_reducible refine (HN _ _ (Rx.At.inc1 (by assumption) (by omega))).mono ?_); (rintro e w' ⟨rfl, q, o2, hA, hq, ho2, hnb, hgo⟩))))
    go_ret
    exact ⟨4, q, o2, rfl, hA, by omega, ho2, by omega, fun _ hn _ _ => by rw [(hnb hn).1]; exact .hash HC.out HNM.out, .hash _ _ _ HC.out (fun _ hn => ⟨rfl, (hnb hn).1, (hnb hn).2⟩) (fun hx => absurd (HNM.out) (by rw [hx]; decide))⟩
  | false =>
    have HNM := Lib.hid hnm
    cases he : escB R.t (p + 1) with
    | true =>
      have HB := Lib.hid (show ¬ NoBs R.t from fun hn => by rw [hn.escB] at he; cases he)
      go_enter Tryz.func115, Tryz.ntmps115
      go_wp2_with (first | (go_at_call 142; ((with_reducible refine ((nameByte_any _ _ (byte_lo _ _) (byte_hi _ _))).mono ?_); (rintro e w' ⟨rfl, rfl⟩))) | (go_at_call 135; ((with_reducible refine ((escapes1 R w0 _ _ _ (by first | exact Rx.At.inc1 (by assumption) (by omega) | exact Rx.At.inc2 (by assumption) (by omega) | exact Rx.At.set2 (by assumption) _ | assumption))).mono ?_); (rintro e w' ⟨rfl, hA⟩); (have r0 := Rx.At.c0 hA; have r1 := Rx.At.c1 hA; have r2 := Rx.At.c2 hA; have rf := Rx.At.f hA))) | (go_at_call 139; ((with_reducible refine (HN _ _ (Rx.At.inc1 (by assumption) (by omega))).mono ?_); (rintro e w' ⟨rfl, q, o2, hA, hq, ho2, hnb, hgo⟩))))
      go_ret
      exact ⟨4, q, o2, rfl, hA, by omega, fun ho => ho2 (by rw [ho]; rfl), by omega, fun _ hn _ _ => absurd hn HB.out, .hash _ _ _ HC.out (fun _ hn => absurd hn HB.out) (fun _ hn => absurd hn HB.out)⟩
    | false =>
      cases h61 : (byte R.t (p + 1) == 61)
      all_goals
        go_enter Tryz.func115, Tryz.ntmps115
        go_wp2_with (first | (go_at_call 142; ((with_reducible refine ((nameByte_any _ _ (byte_lo _ _) (byte_hi _ _))).mono ?_); (rintro e w' ⟨rfl, rfl⟩))) | (go_at_call 135; ((with_reducible refine ((escapes1 R w0 _ _ _ (by first | exact Rx.At.inc1 (by assumption) (by omega) | exact Rx.At.inc2 (by assumption) (by omega) | exact Rx.At.set2 (by assumption) _ | assumption))).mono ?_); (rintro e w' ⟨rfl, hA⟩); (have r0 := Rx.At.c0 hA; have r1 := Rx.At.c1 hA; have r2 := Rx.At.c2 hA; have rf := Rx.At.f hA))) | (go_at_call 53; ((with_reducible refine (has_R R w0 _ p _ (Rx.At.alloc (by assumption) _) _ _ (sign_lies _ _ _ (by simp)) false (by decide)).mono ?_); (rintro e w1 ⟨rfl, hA1⟩))) | (go_at_call 144; ((with_reducible refine (one_any R w0 _ p _ hA1 _ (by omega)).mono ?_); (rintro e w2 ⟨rfl, hA2⟩))))
        go_ret
        exact ⟨9, p + 1, _, rfl, hA2, by omega, fun ho => by rw [ho]; rfl, by omega, fun _ _ _ ha => absurd (ha.2 rfl) (by rw [HC.out]; decide), .hash _ _ _ HC.out (fun hx => absurd (HNM.out) (by rw [hx]; decide)) (fun _ hn => ⟨rfl, rfl, by first | rfl | (rw [hn.escO, Bool.or_false])⟩)⟩

set_option maxRecDepth 100000 in
set_option maxHeartbeats 2000000 in
theorem sign_other (hlt : p < R.t.length) (hnb : numB R.t p = false) (e35 : (byte R.t p == 35) = false) (e64 : (byte R.t p == 64) = false) (e124 : (byte R.t p == 124) = false) (e126 : (byte R.t p == 126) = false) (e94 : (byte R.t p == 94) = false) (e36 : (byte R.t p == 36) = false) (e42 : (byte R.t p == 42) = false) (e60 : (byte R.t p == 60) = false) (hh : hasB signWord (byte R.t p) = false) : Calls Tryz.prog 115 #[.pointer (some ⟨R.g, 0, none⟩), .int .u8 (byte R.t p), .int .u8 (byte R.t (p + 1))] w (RTok R w0 p o (SgnK R p o)) := by
  have HH := Lib.hid hh
  have HH3 := Lib.hid (show ∀ c ∈ [(40 : Int), 41, 44, 58, 59, 91, 93, 123, 125, 35], byte R.t p ≠ c from by
    have := hasB_no hh
    intro c hc
    simp only [List.mem_cons, List.not_mem_nil, or_false] at hc
    rcases hc with rfl | rfl | rfl | rfl | rfl | rfl | rfl | rfl | rfl | rfl
    · exact (this 0 (by decide)).symm
    · exact (this 1 (by decide)).symm
    · exact (this 2 (by decide)).symm
    · exact (this 3 (by decide)).symm
    · exact (this 4 (by decide)).symm
    · exact (this 5 (by decide)).symm
    · exact (this 6 (by decide)).symm
    · exact (this 7 (by decide)).symm
    · exact (this 8 (by decide)).symm
    · exact beq_eq_false_iff_ne.1 e35)
  have HH2 := Lib.hid (show ∀ c ∈ [(36 : Int), 42, 94, 126, 124], byte R.t p = c → (byte R.t (p + 1) == 61) = false from by
    intro c hc e
    simp only [List.mem_cons, List.not_mem_nil, or_false] at hc
    have n1 := beq_eq_false_iff_ne.1 e36
    have n2 := beq_eq_false_iff_ne.1 e42
    have n3 := beq_eq_false_iff_ne.1 e94
    have n4 := beq_eq_false_iff_ne.1 e126
    have n5 := beq_eq_false_iff_ne.1 e124
    omega)
  have HH4 := Lib.hid (show byte R.t p ≠ 64 ∧ byte R.t p ≠ 60 ∧ ¬ (byte R.t p = 124 ∧ byte R.t (p + 1) = 124) from ⟨beq_eq_false_iff_ne.1 e64, beq_eq_false_iff_ne.1 e60, fun hx => beq_eq_false_iff_ne.1 e124 hx.1⟩)
  have HN := Lib.hid hnb
  have H1 := Lib.hid e126
  have H2 := Lib.hid e42
  clear hh hnb
  have kc := fun (w : World) (C : Array Value) (n c : Nat) => Lib.run_convert_bytes_const (P := Tryz.prog) w 24 5 C n c Tryz.underlying24 Tryz.underlying5
  cases h61 : (byte R.t (p + 1) == 61)
  all_goals
    go_enter Tryz.func115, Tryz.ntmps115
    go_wp2_with (first | (go_at_call 53; ((with_reducible refine (has_R R w0 _ p _ (Rx.At.alloc h _) _ _ (sign_lies _ _ _ (by simp)) false (by exact HH.out)).mono ?_); (rintro e w1 ⟨rfl, hA1⟩))) | (go_at_call 144; ((with_reducible refine (one_any R w0 _ p _ hA1 _ (by omega)).mono ?_); (rintro e w2 ⟨rfl, hA2⟩))))
    go_ret
    refine ⟨9, p + 1, o, rfl, hA2, by omega, id, by omega, fun _ _ _ ha => ?_, .del HH3.out (fun c hc => HH2.out c hc) HH4.out⟩
    have hn : fracEnd R.t (signEnd R.t p) = none := by
      have := HN.out
      rw [numB] at this
      cases hf : fracEnd R.t (signEnd R.t p) with
      | none => rfl
      | some _ => rw [hf] at this; cases this
    have n1 := beq_eq_false_iff_ne.1 H1.out
    have n2 := beq_eq_false_iff_ne.1 H2.out
    rcases ha.2 rfl with hx | hx | hx | hx | hx | hx
    · exact .delS (.inl hx) hn
    · exact .del (.inl hx)
    · exact .delS (.inr hx) hn
    · exact absurd hx n1
    · exact .del (.inr hx)
    · exact absurd hx n2
theorem sign_any (hlt : p < R.t.length) (hnb : numB R.t p = false) : Calls Tryz.prog 115 #[.pointer (some ⟨R.g, 0, none⟩), .int .u8 (byte R.t p), .int .u8 (byte R.t (p + 1))] w (RTok R w0 p o (SgnK R p o)) := by

  by_cases e40 : byte R.t p = 40
  · have := sign_40 R w0 w p o h e40; rw [e40]; exact this

  by_cases e41 : byte R.t p = 41
  · have := sign_41 R w0 w p o h e41; rw [e41]; exact this

  by_cases e44 : byte R.t p = 44
  · have := sign_44 R w0 w p o h e44; rw [e44]; exact this

  by_cases e58 : byte R.t p = 58
  · have := sign_58 R w0 w p o h e58; rw [e58]; exact this

  by_cases e59 : byte R.t p = 59
  · have := sign_59 R w0 w p o h e59; rw [e59]; exact this

  by_cases e91 : byte R.t p = 91
  · have := sign_91 R w0 w p o h e91; rw [e91]; exact this

  by_cases e93 : byte R.t p = 93
  · have := sign_93 R w0 w p o h e93; rw [e93]; exact this

  by_cases e123 : byte R.t p = 123
  · have := sign_123 R w0 w p o h e123; rw [e123]; exact this

  by_cases e125 : byte R.t p = 125
  · have := sign_125 R w0 w p o h e125; rw [e125]; exact this

  by_cases e126 : byte R.t p = 126
  · have := sign_126 R w0 w p o h e126; rw [e126]; exact this

  by_cases e94 : byte R.t p = 94
  · have := sign_94 R w0 w p o h e94; rw [e94]; exact this

  by_cases e36 : byte R.t p = 36
  · have := sign_36 R w0 w p o h e36; rw [e36]; exact this

  by_cases e42 : byte R.t p = 42
  · have := sign_42 R w0 w p o h e42; rw [e42]; exact this

  by_cases e60 : byte R.t p = 60
  · have := sign_60 R w0 w p o h e60; rw [e60]; exact this

  by_cases e64 : byte R.t p = 64
  · have := sign_64 R w0 w p o h e64; rw [e64]; exact this

  by_cases e35 : byte R.t p = 35
  · have := sign_35 R w0 w p o h e35; rw [e35]; exact this

  by_cases e124 : byte R.t p = 124
  · cases hb : (byte R.t (p + 1) == 124) with
    | true => have := sign_bar R w0 w p o h e124 hb; rw [e124]; exact this
    | false => have := sign_124 R w0 w p o h e124 hb; rw [e124]; exact this
  exact sign_other R w0 w p o h hlt hnb (beq_eq_false_iff_ne.2 e35) (beq_eq_false_iff_ne.2 e64) (beq_eq_false_iff_ne.2 e124) (beq_eq_false_iff_ne.2 e126) (beq_eq_false_iff_ne.2 e94) (beq_eq_false_iff_ne.2 e36) (beq_eq_false_iff_ne.2 e42) (beq_eq_false_iff_ne.2 e60) (hasB_false fun i hi => by
    have hi' : i < 9 := hi
    intro e
    match i, hi' with
    | 0, _ => exact e40 e.symm
    | 1, _ => exact e41 e.symm
    | 2, _ => exact e44 e.symm
    | 3, _ => exact e58 e.symm
    | 4, _ => exact e59 e.symm
    | 5, _ => exact e91 e.symm
    | 6, _ => exact e93 e.symm
    | 7, _ => exact e123 e.symm
    | 8, _ => exact e125 e.symm
  )
end
end Go.Proofs.YtlglijnaeaonpaaGreatDoor.Css
