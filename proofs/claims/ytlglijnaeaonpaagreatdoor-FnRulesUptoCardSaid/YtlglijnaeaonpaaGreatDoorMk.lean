/- The reference's reader: strings, comments, ranges of characters. -/
import Derived.Test.YtlglijnaeaonpaaGreatDoorMj
import Derived.Test.YtlglijnaeaonpaaGreatDoorMc
set_option linter.all false
/- The reference's reader: strings, comments, ranges of characters. -/
namespace Go.Proofs.YtlglijnaeaonpaaGreatDoor.Css
open Go.RowKit

/-- No byte 0 stands in a text. -/
def NoZ (t : List UInt8) : Prop := ∀ i, i < t.length → byte t i ≠ 0
/-- What stands in a string that begins with a quotation mark. -/
def inq (m c : Int) : Bool := !(c == m) && !isNL c && !(c == 0)
/-- The string that begins at a place is left open. -/
def strO (t : List UInt8) (p : Nat) : Bool := !(byte t (spanEnd t (inq (byte t p)) (p + 1)) == byte t p)
/-- What is known of a string that has been read. -/
def QuoK (R : Rx) (p : Nat) (o : Bool) (tt : Int) (q : Nat) (o' : Bool) : Prop := (o' = false → NoBs R.t → NoZ R.t → tt = 5 ∧ Tk R.t p tt q) ∧ (NoBs R.t → NoZ R.t → o' = (o || strO R.t p))
/-- Inside a string. -/
def InStr (t : List UInt8) (p q : Nat) : Prop := ∀ i, p < i → i < q → byte t i ≠ byte t p ∧ byte t i ≠ 0 ∧ byte t i ≠ 10 ∧ byte t i ≠ 13 ∧ byte t i ≠ 12
theorem InStr.step {t : List UInt8} {p q : Nat} (h : InStr t p q) (h1 : (byte t q == byte t p) = false) (h2 : isNL (byte t q) = false) (h3 : byte t q ≠ 0) : InStr t p (q + 1) := by
  intro i hi hq
  rcases Nat.lt_or_ge i q with hlt | hge
  · exact h i hi hlt
  · obtain rfl : i = q := by omega
    simp only [isNL, Bool.or_eq_false_iff, beq_eq_false_iff_ne] at h2
    exact ⟨beq_eq_false_iff_ne.1 h1, h3, h2.1.1, h2.1.2, h2.2⟩
theorem InStr.done {t : List UInt8} {p q : Nat} (h : InStr t p q) (hq : p < q) (h0 : byte t p = 34 ∨ byte t p = 39) (h1 : (byte t q == byte t p) = true) : Tk t p 5 (q + 1) := by
  have e := beq_iff_eq.1 h1
  refine .str q h0 hq e (fun i hi hle => ?_) (fun i hi hlt => (h i hi hlt).1)
  rcases Nat.lt_or_ge i q with hlt | hge
  · exact (h i hi hlt).2
  · obtain rfl : i = q := by omega
    rw [e]
    rcases h0 with h0 | h0 <;> rw [h0] <;> decide

section
variable (R : Rx) (w0 w : World) (p : Nat) (o : Bool) (h : R.At w0 w p o)
include h
set_option maxRecDepth 100000 in
set_option maxHeartbeats 2000000 in
theorem quoted_any (hq : byte R.t p = 34 ∨ byte R.t p = 39) : Calls Tryz.prog 107 #[.pointer (some ⟨R.g, 0, none⟩)] w (RTok R w0 p o (QuoK R p o)) := by
  have hbig := h.big
  have hcp := h.cp
  have hlt := lt_of_byte (t := R.t) (p := p) (by omega)
  have HQ := Lib.hid hq
  clear hq
  go_enter Tryz.func107, Tryz.ntmps107
  go_wp2_with (first | (go_at_call 104; ((with_reducible refine ((rpeek0 R w0 _ _ _ (by first | exact Rx.At.inc1 (by assumption) (by omega) | exact Rx.At.inc2 (by assumption) (by omega) | exact Rx.At.set2 (by assumption) _ | assumption))).mono ?_); (rintro e w' ⟨rfl, hA⟩); (have r0 := Rx.At.c0 hA; have r1 := Rx.At.c1 hA; have r2 := Rx.At.c2 hA; have rf := Rx.At.f hA))))
  go_loopg [] (R.t.length - (p + 1)) (fun k wr => ∃ q o', p + 1 ≤ q ∧ q ≤ R.t.length ∧ k = R.t.length - q ∧ R.At w0 wr q o' ∧ (o = true → o' = true) ∧ (o' = false → NoBs R.t → NoZ R.t → InStr R.t p q) ∧ (NoBs R.t → NoZ R.t → o' = o ∧ spanEnd R.t (inq (byte R.t p)) q = spanEnd R.t (inq (byte R.t p)) (p + 1)))
  case atStart => exact ⟨p + 1, o, by omega, by omega, rfl, Rx.At.inc1 (by assumption) (by omega), id, fun _ _ _ i hi hq => by omega, fun _ _ => ⟨rfl, rfl⟩⟩
  case round =>
    clear hA r0 r1 r2 rf
    obtain ⟨q, o', hq1, hq2, hk, hA, hoo, hI, hS⟩ := hrel
    have HSP := Lib.hid hS
    clear hS
    have HIN := Lib.hid hI
    have HO := Lib.hid hoo
    clear hI hoo
    by_cases hov : R.t.length ≤ q
    · have HOP := Lib.hid (show NoBs R.t → NoZ R.t → true = (o || strO R.t p) from fun hn hz => by
        rw [strO, ← (HSP.out hn hz).2, spanEnd_stop (f := inq (byte R.t p)) (by rw [byte_end _ _ hov]; simp [inq]), byte_end _ _ hov]
        have : ((0 : Int) == byte R.t p) = false := by rw [beq_eq_false_iff_ne]; have := HQ.out; omega
        rw [this, Bool.not_false, Bool.or_true])
      go_wp2_with (first | (go_at_call 67; ((with_reducible refine ((rover_any R w0 _ _ _ (by first | exact Rx.At.inc1 (by assumption) (by omega) | exact Rx.At.inc2 (by assumption) (by omega) | exact Rx.At.set2 (by assumption) _ | assumption))).mono ?_); (rintro e w' ⟨rfl, hA⟩); (have r0 := Rx.At.c0 hA; have r1 := Rx.At.c1 hA; have r2 := Rx.At.c2 hA; have rf := Rx.At.f hA))) | (go_at_call 104; ((with_reducible refine ((rpeek0 R w0 _ _ _ (by first | exact Rx.At.inc1 (by assumption) (by omega) | exact Rx.At.inc2 (by assumption) (by omega) | exact Rx.At.set2 (by assumption) _ | assumption))).mono ?_); (rintro e w' ⟨rfl, hA⟩); (have r0 := Rx.At.c0 hA; have r1 := Rx.At.c1 hA; have r2 := Rx.At.c2 hA; have rf := Rx.At.f hA))))
      go_ret
      exact ⟨5, q, true, rfl, Rx.At.set2 (by assumption) true, by omega, fun _ => rfl, by omega, fun h2 => (by cases h2), HOP.out⟩
    · have hlq : q + 1 ≤ R.t.length := by omega
      cases hc : (byte R.t q == byte R.t p) with
      | true =>
        have HC := Lib.hid hc
        have HOP := Lib.hid (show NoBs R.t → NoZ R.t → o' = (o || strO R.t p) from fun hn hz => by
          rw [strO, ← (HSP.out hn hz).2, spanEnd_stop (f := inq (byte R.t p)) (by rw [beq_iff_eq.1 hc]; simp [inq]), hc, Bool.not_true, Bool.or_false]
          exact (HSP.out hn hz).1)
        go_wp2_with (first | (go_at_call 67; ((with_reducible refine ((rover_any R w0 _ _ _ (by first | exact Rx.At.inc1 (by assumption) (by omega) | exact Rx.At.inc2 (by assumption) (by omega) | exact Rx.At.set2 (by assumption) _ | assumption))).mono ?_); (rintro e w' ⟨rfl, hA⟩); (have r0 := Rx.At.c0 hA; have r1 := Rx.At.c1 hA; have r2 := Rx.At.c2 hA; have rf := Rx.At.f hA))) | (go_at_call 104; ((with_reducible refine ((rpeek0 R w0 _ _ _ (by first | exact Rx.At.inc1 (by assumption) (by omega) | exact Rx.At.inc2 (by assumption) (by omega) | exact Rx.At.set2 (by assumption) _ | assumption))).mono ?_); (rintro e w' ⟨rfl, hA⟩); (have r0 := Rx.At.c0 hA; have r1 := Rx.At.c1 hA; have r2 := Rx.At.c2 hA; have rf := Rx.At.f hA))))
        go_ret
        exact ⟨5, q + 1, o', rfl, Rx.At.inc1 (by assumption) (by omega), by omega, HO.out, by omega, fun h2 hn hz => ⟨rfl, (HIN.out h2 hn hz).done hq1 HQ.out HC.out⟩, HOP.out⟩
      | false =>
        have HC := Lib.hid hc
        cases hn1 : isNL (byte R.t q) with
        | true =>
          have HOP := Lib.hid (show NoBs R.t → NoZ R.t → true = (o || strO R.t p) from fun hn hz => by
            rw [strO, ← (HSP.out hn hz).2, spanEnd_stop (f := inq (byte R.t p)) (by rw [inq, hn1]; simp), hc, Bool.not_false, Bool.or_true])
          go_wp2_with (first | (go_at_call 67; ((with_reducible refine ((rover_any R w0 _ _ _ (by first | exact Rx.At.inc1 (by assumption) (by omega) | exact Rx.At.inc2 (by assumption) (by omega) | exact Rx.At.set2 (by assumption) _ | assumption))).mono ?_); (rintro e w' ⟨rfl, hA⟩); (have r0 := Rx.At.c0 hA; have r1 := Rx.At.c1 hA; have r2 := Rx.At.c2 hA; have rf := Rx.At.f hA))) | (go_at_call 104; ((with_reducible refine ((rpeek0 R w0 _ _ _ (by first | exact Rx.At.inc1 (by assumption) (by omega) | exact Rx.At.inc2 (by assumption) (by omega) | exact Rx.At.set2 (by assumption) _ | assumption))).mono ?_); (rintro e w' ⟨rfl, hA⟩); (have r0 := Rx.At.c0 hA; have r1 := Rx.At.c1 hA; have r2 := Rx.At.c2 hA; have rf := Rx.At.f hA))) | (go_at_call 134; ((with_reducible refine ((newline_any _ _ (byte_lo _ _) (byte_hi _ _))).mono ?_); (rintro e w' ⟨rfl, rfl⟩))))
          go_ret
          exact ⟨6, q, true, rfl, Rx.At.set2 (by assumption) true, by omega, fun _ => rfl, by omega, fun h2 => (by cases h2), HOP.out⟩
        | false =>
          have HNL := Lib.hid hn1
          cases h92 : (byte R.t q == 92) with
          | true =>
            have HB := Lib.hid (show ¬ NoBs R.t from fun hn => hn q (beq_iff_eq.1 h92))
            cases hn2 : isNL (byte R.t (q + 1)) with
            | true =>
              have hl2 : q + 1 < R.t.length := by
                rcases Nat.lt_or_ge (q + 1) R.t.length with h' | h'
                · exact h'
                · rw [byte_end _ _ h'] at hn2; exact absurd hn2 (by decide)
              cases h13 : (byte R.t (q + 1) == 13) with
              | true =>
                go_wp2_with (first | (go_at_call 67; ((with_reducible refine ((rover_any R w0 _ _ _ (by first | exact Rx.At.inc1 (by assumption) (by omega) | exact Rx.At.inc2 (by assumption) (by omega) | exact Rx.At.set2 (by assumption) _ | assumption))).mono ?_); (rintro e w' ⟨rfl, hA⟩); (have r0 := Rx.At.c0 hA; have r1 := Rx.At.c1 hA; have r2 := Rx.At.c2 hA; have rf := Rx.At.f hA))) | (go_at_call 104; ((with_reducible refine ((rpeek0 R w0 _ _ _ (by first | exact Rx.At.inc1 (by assumption) (by omega) | exact Rx.At.inc2 (by assumption) (by omega) | exact Rx.At.set2 (by assumption) _ | assumption))).mono ?_); (rintro e w' ⟨rfl, hA⟩); (have r0 := Rx.At.c0 hA; have r1 := Rx.At.c1 hA; have r2 := Rx.At.c2 hA; have rf := Rx.At.f hA))) | (go_at_call 104; ((with_reducible refine ((rpeek1 R w0 _ _ _ (by first | exact Rx.At.inc1 (by assumption) (by omega) | exact Rx.At.inc2 (by assumption) (by omega) | exact Rx.At.set2 (by assumption) _ | assumption))).mono ?_); (rintro e w' ⟨rfl, hA⟩); (have r0 := Rx.At.c0 hA; have r1 := Rx.At.c1 hA; have r2 := Rx.At.c2 hA; have rf := Rx.At.f hA))) | (go_at_call 134; ((with_reducible refine ((newline_any _ _ (byte_lo _ _) (byte_hi _ _))).mono ?_); (rintro e w' ⟨rfl, rfl⟩))))
                go_roundg (R.t.length - (q + 2))
                case measure => omega
                case rel => exact ⟨q + 2, true, by omega, by omega, rfl, Rx.At.inc2 (Rx.At.set2 (by assumption) true) (by omega), fun _ => rfl, fun h2 => (by cases h2), fun hn => absurd hn HB.out⟩
              | false =>
                go_wp2_with (first | (go_at_call 67; ((with_reducible refine ((rover_any R w0 _ _ _ (by first | exact Rx.At.inc1 (by assumption) (by omega) | exact Rx.At.inc2 (by assumption) (by omega) | exact Rx.At.set2 (by assumption) _ | assumption))).mono ?_); (rintro e w' ⟨rfl, hA⟩); (have r0 := Rx.At.c0 hA; have r1 := Rx.At.c1 hA; have r2 := Rx.At.c2 hA; have rf := Rx.At.f hA))) | (go_at_call 104; ((with_reducible refine ((rpeek0 R w0 _ _ _ (by first | exact Rx.At.inc1 (by assumption) (by omega) | exact Rx.At.inc2 (by assumption) (by omega) | exact Rx.At.set2 (by assumption) _ | assumption))).mono ?_); (rintro e w' ⟨rfl, hA⟩); (have r0 := Rx.At.c0 hA; have r1 := Rx.At.c1 hA; have r2 := Rx.At.c2 hA; have rf := Rx.At.f hA))) | (go_at_call 104; ((with_reducible refine ((rpeek1 R w0 _ _ _ (by first | exact Rx.At.inc1 (by assumption) (by omega) | exact Rx.At.inc2 (by assumption) (by omega) | exact Rx.At.set2 (by assumption) _ | assumption))).mono ?_); (rintro e w' ⟨rfl, hA⟩); (have r0 := Rx.At.c0 hA; have r1 := Rx.At.c1 hA; have r2 := Rx.At.c2 hA; have rf := Rx.At.f hA))) | (go_at_call 134; ((with_reducible refine ((newline_any _ _ (byte_lo _ _) (byte_hi _ _))).mono ?_); (rintro e w' ⟨rfl, rfl⟩))))
                go_roundg (R.t.length - (q + 2))
                case measure => omega
                case rel => exact ⟨q + 2, o', by omega, by omega, rfl, Rx.At.inc2 (by assumption) (by omega), HO.out, fun _ hn => absurd hn HB.out, fun hn => absurd hn HB.out⟩
            | false =>
              cases he : escB R.t q with
              | true =>
                have HI := Lib.hid he
                go_wp2_with (first | (go_at_call 67; ((with_reducible refine ((rover_any R w0 _ _ _ (by first | exact Rx.At.inc1 (by assumption) (by omega) | exact Rx.At.inc2 (by assumption) (by omega) | exact Rx.At.set2 (by assumption) _ | assumption))).mono ?_); (rintro e w' ⟨rfl, hA⟩); (have r0 := Rx.At.c0 hA; have r1 := Rx.At.c1 hA; have r2 := Rx.At.c2 hA; have rf := Rx.At.f hA))) | (go_at_call 104; ((with_reducible refine ((rpeek0 R w0 _ _ _ (by first | exact Rx.At.inc1 (by assumption) (by omega) | exact Rx.At.inc2 (by assumption) (by omega) | exact Rx.At.set2 (by assumption) _ | assumption))).mono ?_); (rintro e w' ⟨rfl, hA⟩); (have r0 := Rx.At.c0 hA; have r1 := Rx.At.c1 hA; have r2 := Rx.At.c2 hA; have rf := Rx.At.f hA))) | (go_at_call 104; ((with_reducible refine ((rpeek1 R w0 _ _ _ (by first | exact Rx.At.inc1 (by assumption) (by omega) | exact Rx.At.inc2 (by assumption) (by omega) | exact Rx.At.set2 (by assumption) _ | assumption))).mono ?_); (rintro e w' ⟨rfl, hA⟩); (have r0 := Rx.At.c0 hA; have r1 := Rx.At.c1 hA; have r2 := Rx.At.c2 hA; have rf := Rx.At.f hA))) | (go_at_call 134; ((with_reducible refine ((newline_any _ _ (byte_lo _ _) (byte_hi _ _))).mono ?_); (rintro e w' ⟨rfl, rfl⟩))) | (go_at_call 135; ((with_reducible refine ((escapes0 R w0 _ _ _ (by first | exact Rx.At.inc1 (by assumption) (by omega) | exact Rx.At.inc2 (by assumption) (by omega) | exact Rx.At.set2 (by assumption) _ | assumption))).mono ?_); (rintro e w' ⟨rfl, hA⟩); (have r0 := Rx.At.c0 hA; have r1 := Rx.At.c1 hA; have r2 := Rx.At.c2 hA; have rf := Rx.At.f hA))) | (go_at_call 136; ((with_reducible refine (escape_any R w0 _ _ _ (by first | exact Rx.At.inc1 (by assumption) (by omega) | exact Rx.At.inc2 (by assumption) (by omega) | exact Rx.At.set2 (by assumption) _ | assumption) HI.out).mono ?_); (rintro e w' ⟨rfl, q', o2, hA, hq', ho2⟩))))
                go_roundg (R.t.length - q')
                case measure => have := hA.pl; omega
                case rel => exact ⟨q', o2, by omega, hA.pl, rfl, hA, fun ho => ho2 (by rw [HO.out ho]; rfl), fun _ hn => absurd hn HB.out, fun hn => absurd hn HB.out⟩
              | false =>
                go_wp2_with (first | (go_at_call 67; ((with_reducible refine ((rover_any R w0 _ _ _ (by first | exact Rx.At.inc1 (by assumption) (by omega) | exact Rx.At.inc2 (by assumption) (by omega) | exact Rx.At.set2 (by assumption) _ | assumption))).mono ?_); (rintro e w' ⟨rfl, hA⟩); (have r0 := Rx.At.c0 hA; have r1 := Rx.At.c1 hA; have r2 := Rx.At.c2 hA; have rf := Rx.At.f hA))) | (go_at_call 104; ((with_reducible refine ((rpeek0 R w0 _ _ _ (by first | exact Rx.At.inc1 (by assumption) (by omega) | exact Rx.At.inc2 (by assumption) (by omega) | exact Rx.At.set2 (by assumption) _ | assumption))).mono ?_); (rintro e w' ⟨rfl, hA⟩); (have r0 := Rx.At.c0 hA; have r1 := Rx.At.c1 hA; have r2 := Rx.At.c2 hA; have rf := Rx.At.f hA))) | (go_at_call 104; ((with_reducible refine ((rpeek1 R w0 _ _ _ (by first | exact Rx.At.inc1 (by assumption) (by omega) | exact Rx.At.inc2 (by assumption) (by omega) | exact Rx.At.set2 (by assumption) _ | assumption))).mono ?_); (rintro e w' ⟨rfl, hA⟩); (have r0 := Rx.At.c0 hA; have r1 := Rx.At.c1 hA; have r2 := Rx.At.c2 hA; have rf := Rx.At.f hA))) | (go_at_call 134; ((with_reducible refine ((newline_any _ _ (byte_lo _ _) (byte_hi _ _))).mono ?_); (rintro e w' ⟨rfl, rfl⟩))) | (go_at_call 135; ((with_reducible refine ((escapes0 R w0 _ _ _ (by first | exact Rx.At.inc1 (by assumption) (by omega) | exact Rx.At.inc2 (by assumption) (by omega) | exact Rx.At.set2 (by assumption) _ | assumption))).mono ?_); (rintro e w' ⟨rfl, hA⟩); (have r0 := Rx.At.c0 hA; have r1 := Rx.At.c1 hA; have r2 := Rx.At.c2 hA; have rf := Rx.At.f hA))))
                go_roundg (R.t.length - (q + 1))
                case measure => omega
                case rel => exact ⟨q + 1, _, by omega, by omega, rfl, Rx.At.inc1 (by assumption) (by omega), fun ho => by rw [HO.out ho]; rfl, fun _ hn => absurd hn HB.out, fun hn => absurd hn HB.out⟩
          | false =>
            have he : escB R.t q = false := by rw [escB, h92]; rfl
            have he2 := Lib.hid (show escO R.t q = false from by rw [escO, h92]; rfl)
            go_wp2_with (first | (go_at_call 67; ((with_reducible refine ((rover_any R w0 _ _ _ (by first | exact Rx.At.inc1 (by assumption) (by omega) | exact Rx.At.inc2 (by assumption) (by omega) | exact Rx.At.set2 (by assumption) _ | assumption))).mono ?_); (rintro e w' ⟨rfl, hA⟩); (have r0 := Rx.At.c0 hA; have r1 := Rx.At.c1 hA; have r2 := Rx.At.c2 hA; have rf := Rx.At.f hA))) | (go_at_call 104; ((with_reducible refine ((rpeek0 R w0 _ _ _ (by first | exact Rx.At.inc1 (by assumption) (by omega) | exact Rx.At.inc2 (by assumption) (by omega) | exact Rx.At.set2 (by assumption) _ | assumption))).mono ?_); (rintro e w' ⟨rfl, hA⟩); (have r0 := Rx.At.c0 hA; have r1 := Rx.At.c1 hA; have r2 := Rx.At.c2 hA; have rf := Rx.At.f hA))) | (go_at_call 104; ((with_reducible refine ((rpeek1 R w0 _ _ _ (by first | exact Rx.At.inc1 (by assumption) (by omega) | exact Rx.At.inc2 (by assumption) (by omega) | exact Rx.At.set2 (by assumption) _ | assumption))).mono ?_); (rintro e w' ⟨rfl, hA⟩); (have r0 := Rx.At.c0 hA; have r1 := Rx.At.c1 hA; have r2 := Rx.At.c2 hA; have rf := Rx.At.f hA))) | (go_at_call 134; ((with_reducible refine ((newline_any _ _ (byte_lo _ _) (byte_hi _ _))).mono ?_); (rintro e w' ⟨rfl, rfl⟩))) | (go_at_call 135; ((with_reducible refine ((escapes0 R w0 _ _ _ (by first | exact Rx.At.inc1 (by assumption) (by omega) | exact Rx.At.inc2 (by assumption) (by omega) | exact Rx.At.set2 (by assumption) _ | assumption))).mono ?_); (rintro e w' ⟨rfl, hA⟩); (have r0 := Rx.At.c0 hA; have r1 := Rx.At.c1 hA; have r2 := Rx.At.c2 hA; have rf := Rx.At.f hA))))
            go_roundg (R.t.length - (q + 1))
            case measure => omega
            case rel =>
              refine ⟨q + 1, o' || escO R.t q, by omega, by omega, rfl, Rx.At.inc1 (by assumption) (by omega), fun ho => by rw [HO.out ho]; rfl, fun h2 hn hz => ?_, fun hn hz => ⟨by rw [he2.out, Bool.or_false]; exact (HSP.out hn hz).1, by
                rw [← (HSP.out hn hz).2]
                refine (spanEnd_step (f := inq (byte R.t p)) (by simp [inq]) ?_).symm
                rw [inq, HC.out, HNL.out, beq_eq_false_iff_ne.2 (hz q hlq)]; rfl⟩⟩
              exact (HIN.out (Bool.or_eq_false_iff.1 h2).1 hn hz).step HC.out HNL.out (hz q hlq)

set_option maxRecDepth 100000 in
set_option maxHeartbeats 2000000 in
theorem comment_any (h1 : p + 2 ≤ R.t.length) : Calls Tryz.prog 108 #[.pointer (some ⟨R.g, 0, none⟩)] w (RTok R w0 p o (fun tt _ _ => tt = 32)) := by
  have hbig := h.big
  have hcp := h.cp
  have r1 := h.c1
  have rf := h.f
  go_enter Tryz.func108, Tryz.ntmps108
  go_wp2
  go_loopg [] (R.t.length - (p + 2)) (fun k wr => ∃ q, p + 2 ≤ q ∧ q ≤ R.t.length ∧ k = R.t.length - q ∧ R.At w0 wr q o)
  case atStart => exact ⟨p + 2, by omega, by omega, rfl, Rx.At.inc2 h (by omega)⟩
  case round =>
    clear r1 rf
    obtain ⟨q, hq1, hq2, hk, hA⟩ := hrel
    by_cases hov : R.t.length ≤ q
    · go_wp2_with (first | (go_at_call 67; ((with_reducible refine ((rover_any R w0 _ _ _ (by first | exact Rx.At.inc1 (by assumption) (by omega) | exact Rx.At.inc2 (by assumption) (by omega) | exact Rx.At.set2 (by assumption) _ | assumption))).mono ?_); (rintro e w' ⟨rfl, hA⟩); (have r0 := Rx.At.c0 hA; have r1 := Rx.At.c1 hA; have r2 := Rx.At.c2 hA; have rf := Rx.At.f hA))) | (go_at_call 104; ((with_reducible refine ((rpeek0 R w0 _ _ _ (by first | exact Rx.At.inc1 (by assumption) (by omega) | exact Rx.At.inc2 (by assumption) (by omega) | exact Rx.At.set2 (by assumption) _ | assumption))).mono ?_); (rintro e w' ⟨rfl, hA⟩); (have r0 := Rx.At.c0 hA; have r1 := Rx.At.c1 hA; have r2 := Rx.At.c2 hA; have rf := Rx.At.f hA))))
      go_ret
      exact ⟨32, q, true, rfl, Rx.At.set2 (by assumption) true, by omega, fun _ => rfl, by omega, rfl⟩
    · have hlq : q + 1 ≤ R.t.length := by omega
      cases h42 : (byte R.t q == 42) with
      | false =>
        go_wp2_with (first | (go_at_call 67; ((with_reducible refine ((rover_any R w0 _ _ _ (by first | exact Rx.At.inc1 (by assumption) (by omega) | exact Rx.At.inc2 (by assumption) (by omega) | exact Rx.At.set2 (by assumption) _ | assumption))).mono ?_); (rintro e w' ⟨rfl, hA⟩); (have r0 := Rx.At.c0 hA; have r1 := Rx.At.c1 hA; have r2 := Rx.At.c2 hA; have rf := Rx.At.f hA))) | (go_at_call 104; ((with_reducible refine ((rpeek0 R w0 _ _ _ (by first | exact Rx.At.inc1 (by assumption) (by omega) | exact Rx.At.inc2 (by assumption) (by omega) | exact Rx.At.set2 (by assumption) _ | assumption))).mono ?_); (rintro e w' ⟨rfl, hA⟩); (have r0 := Rx.At.c0 hA; have r1 := Rx.At.c1 hA; have r2 := Rx.At.c2 hA; have rf := Rx.At.f hA))))
        go_roundg (R.t.length - (q + 1))
        case measure => omega
        case rel => exact ⟨q + 1, by omega, by omega, rfl, Rx.At.inc1 (by assumption) (by omega)⟩
      | true =>
        cases h47 : (byte R.t (q + 1) == 47) with
        | false =>
          go_wp2_with (first | (go_at_call 67; ((with_reducible refine ((rover_any R w0 _ _ _ (by first | exact Rx.At.inc1 (by assumption) (by omega) | exact Rx.At.inc2 (by assumption) (by omega) | exact Rx.At.set2 (by assumption) _ | assumption))).mono ?_); (rintro e w' ⟨rfl, hA⟩); (have r0 := Rx.At.c0 hA; have r1 := Rx.At.c1 hA; have r2 := Rx.At.c2 hA; have rf := Rx.At.f hA))) | (go_at_call 104; ((with_reducible refine ((rpeek0 R w0 _ _ _ (by first | exact Rx.At.inc1 (by assumption) (by omega) | exact Rx.At.inc2 (by assumption) (by omega) | exact Rx.At.set2 (by assumption) _ | assumption))).mono ?_); (rintro e w' ⟨rfl, hA⟩); (have r0 := Rx.At.c0 hA; have r1 := Rx.At.c1 hA; have r2 := Rx.At.c2 hA; have rf := Rx.At.f hA))) | (go_at_call 104; ((with_reducible refine ((rpeek1 R w0 _ _ _ (by first | exact Rx.At.inc1 (by assumption) (by omega) | exact Rx.At.inc2 (by assumption) (by omega) | exact Rx.At.set2 (by assumption) _ | assumption))).mono ?_); (rintro e w' ⟨rfl, hA⟩); (have r0 := Rx.At.c0 hA; have r1 := Rx.At.c1 hA; have r2 := Rx.At.c2 hA; have rf := Rx.At.f hA))))
          go_roundg (R.t.length - (q + 1))
          case measure => omega
          case rel => exact ⟨q + 1, by omega, by omega, rfl, Rx.At.inc1 (by assumption) (by omega)⟩
        | true =>
          have hl2 := lt_of_byte (t := R.t) (p := q + 1) (by rw [beq_iff_eq.1 h47]; decide)
          go_wp2_with (first | (go_at_call 67; ((with_reducible refine ((rover_any R w0 _ _ _ (by first | exact Rx.At.inc1 (by assumption) (by omega) | exact Rx.At.inc2 (by assumption) (by omega) | exact Rx.At.set2 (by assumption) _ | assumption))).mono ?_); (rintro e w' ⟨rfl, hA⟩); (have r0 := Rx.At.c0 hA; have r1 := Rx.At.c1 hA; have r2 := Rx.At.c2 hA; have rf := Rx.At.f hA))) | (go_at_call 104; ((with_reducible refine ((rpeek0 R w0 _ _ _ (by first | exact Rx.At.inc1 (by assumption) (by omega) | exact Rx.At.inc2 (by assumption) (by omega) | exact Rx.At.set2 (by assumption) _ | assumption))).mono ?_); (rintro e w' ⟨rfl, hA⟩); (have r0 := Rx.At.c0 hA; have r1 := Rx.At.c1 hA; have r2 := Rx.At.c2 hA; have rf := Rx.At.f hA))) | (go_at_call 104; ((with_reducible refine ((rpeek1 R w0 _ _ _ (by first | exact Rx.At.inc1 (by assumption) (by omega) | exact Rx.At.inc2 (by assumption) (by omega) | exact Rx.At.set2 (by assumption) _ | assumption))).mono ?_); (rintro e w' ⟨rfl, hA⟩); (have r0 := Rx.At.c0 hA; have r1 := Rx.At.c1 hA; have r2 := Rx.At.c2 hA; have rf := Rx.At.f hA))))
          go_ret
          exact ⟨32, q + 2, o, rfl, Rx.At.inc2 (by assumption) (by omega), by omega, id, by omega, rfl⟩

theorem wrong_any : Calls Tryz.prog 155 #[.pointer (some ⟨R.g, 0, none⟩)] w fun e w' => e = .returned (.string (knm 8)) ∧ R.At w0 w' p true := by
  have r2 := h.c2
  have rf := h.f
  go_enter Tryz.func155, Tryz.ntmps155
  go_wp2
  go_ret
  exact ⟨rfl, h.set2 true⟩
theorem two_any (s : ByteArray) (h1 : p + 2 ≤ R.t.length) : Calls Tryz.prog 143 #[.pointer (some ⟨R.g, 0, none⟩), .string s] w fun e w' => e = .returned (.string s) ∧ R.At w0 w' (p + 2) o := by
  have r1 := h.c1
  have rf := h.f
  have hbig := h.big
  have hcp := h.cp
  go_enter Tryz.func143, Tryz.ntmps143
  go_wp2
  go_ret
  exact ⟨rfl, h.inc2 h1⟩
theorem one_any (s : ByteArray) (h1 : p + 1 ≤ R.t.length) : Calls Tryz.prog 144 #[.pointer (some ⟨R.g, 0, none⟩), .string s] w fun e w' => e = .returned (.string s) ∧ R.At w0 w' (p + 1) o := by
  have r1 := h.c1
  have rf := h.f
  have hbig := h.big
  have hcp := h.cp
  go_enter Tryz.func144, Tryz.ntmps144
  go_wp2
  go_ret
  exact ⟨rfl, h.inc1 h1⟩
end
end Go.Proofs.YtlglijnaeaonpaaGreatDoor.Css
/- The reference's looks at rows of bytes: whether a byte stands in one, whether one is another in small letters, whether two are the same. -/
namespace Go.Proofs.YtlglijnaeaonpaaGreatDoor.Css
open Go.RowKit

/-- A byte stands in a row. -/
def hasB (l : List UInt8) (c : Int) : Bool := l.any fun x => (x.toNat : Int) == c
theorem hasB_false {l : List UInt8} {c : Int} (h : ∀ i, i < l.length → byte l i ≠ c) : hasB l c = false := by
  rw [hasB, List.any_eq_false]
  intro x hx he
  obtain ⟨i, hi, rfl⟩ := List.mem_iff_getElem.1 hx
  exact h i hi (by simpa [byte, List.getD_eq_getElem?_getD, List.getElem?_eq_getElem hi] using he)
theorem hasB_true {l : List UInt8} {c : Int} (i : Nat) (hi : i < l.length) (h : byte l i = c) : hasB l c = true := by
  rw [hasB, List.any_eq_true]
  exact ⟨l[i], List.getElem_mem hi, by simpa [byte, List.getD_eq_getElem?_getD, List.getElem?_eq_getElem hi] using h⟩
theorem hasB_no {l : List UInt8} {c : Int} (h : hasB l c = false) (i : Nat) (hi : i < l.length) : byte l i ≠ c := by
  intro e
  rw [hasB_true i hi e] at h; cases h

set_option maxRecDepth 100000 in
set_option maxHeartbeats 1000000 in
theorem has_any (w : World) (v : Value) (l : List UInt8) (c : Int) (h : Slb w v l) (hl : l.length ≤ 140737488351232) :
    Calls Tryz.prog 53 #[v, .int .u8 c] w fun e w' => e = .returned (.bool (hasB l c)) ∧ w = w' := by
  obtain ⟨a, cap, rfl, hcs⟩ := h
  rcases Nat.eq_zero_or_pos l.length with h0 | h0
  · have H := Lib.hid (show hasB l c = false from by rw [List.eq_nil_of_length_eq_zero h0]; rfl)
    rw [h0]
    clear hcs h0 hl
    go_enter Tryz.func53, Tryz.ntmps53
    go_wp2
    refine wp_loop_once ?_
    go_wp2
    go_ret
    exact ⟨ret_bool H.out.symm, rfl⟩
  · obtain ⟨b, off, rfl, hL⟩ := hcs h0
    have HL := Lib.hid hL
    clear hcs h0 hL
    go_enter Tryz.func53, Tryz.ntmps53
    go_wp2
    go_loopg [6, 9] l.length (fun k _ i wr => ∃ q, q ≤ l.length ∧ k = l.length - q ∧ i = .int .i64 q ∧ wr = w ∧ ∀ j, j < q → byte l j ≠ c)
    case atStart => exact ⟨0, Nat.zero_le _, rfl, rfl, rfl, fun _ h => by omega⟩
    case round =>
      obtain ⟨q, hq, hk, rfl, rfl, hall⟩ := hrel
      have HA := Lib.hid hall
      clear hall
      by_cases hlt : q < l.length
      · have c1 := HL.out q hlt
        cases hc : (byte l q == c) with
        | true =>
          have H := Lib.hid (hasB_true q hlt (beq_iff_eq.1 hc))
          go_wp2
          go_ret
          exact ⟨ret_bool H.out.symm, rfl⟩
        | false =>
          have H := Lib.hid (beq_eq_false_iff_ne.1 hc)
          go_wp2
          go_roundg (l.length - (q + 1))
          case measure => omega
          case rel =>
            refine ⟨q + 1, by omega, rfl, by go_num, rfl, fun j hj => ?_⟩
            by_cases e : j = q
            · subst e; exact H.out
            · exact HA.out j (by omega)
      · have H := Lib.hid (show hasB l c = false from hasB_false fun i hi => HA.out i (by omega))
        go_wp2
        go_ret
        exact ⟨ret_bool H.out.symm, rfl⟩

/-- The small letter, for a look at one that is small. -/
theorem lowC_fold (d c : Int) (hc : c < 65 ∨ 90 < c) (_hd : 0 ≤ d) : (lowC d == c) = fold1 d c := by
  rw [Bool.eq_iff_iff]
  simp only [lowC, fold1, beq_iff_eq, Bool.or_eq_true, Bool.and_eq_true, decide_eq_true_eq]
  split <;> omega
theorem urlWord_low (i : Nat) : byte urlWord i < 65 ∨ 90 < byte urlWord i := by
  match i with
  | 0 => right; decide
  | 1 => right; decide
  | 2 => right; decide
  | i + 3 => left; rw [byte_end _ _ (by simp [urlWord])]; decide

set_option maxRecDepth 100000 in
set_option maxHeartbeats 1000000 in
theorem sfold_any (w : World) (b off cap tb toff tcap : Nat) (l t : List UInt8) (h : Lies w b off l) (ht : Lies w tb toff t) (hl : l.length ≤ 140737488351232) (hlow : ∀ i, byte t i < 65 ∨ 90 < byte t i) :
    Calls Tryz.prog 140 #[.slice (some ⟨b, off, none⟩) l.length cap, .slice (some ⟨tb, toff, none⟩) t.length tcap] w fun e w' =>
      e = .returned (.bool (eqFold l t)) ∧ ∃ n, w' = w.drewN n := by
  have H := Lib.hid h
  have HT := Lib.hid ht
  have HW := Lib.hid hlow
  clear h ht hlow
  by_cases hlen : l.length = t.length
  · have HL := Lib.hid hlen
    have b1 : ((l.length : Int) != (t.length : Int)) = false := by simp [bne, hlen]
    have le1 : l.length ≤ t.length := by omega
    have le2 : t.length ≤ l.length := by omega
    clear hlen
    go_enter Tryz.func140, Tryz.ntmps140
    go_wp2
    go_loopg [5, 6, 14] l.length (fun k _ _ i wr => ∃ q, q ≤ l.length ∧ k = l.length - q ∧ i = .int .i64 q ∧ (∃ n, wr = w.drewN n) ∧ ∀ j, j < q → fold1 (byte l j) (byte t j) = true)
    case atStart => exact ⟨0, Nat.zero_le _, rfl, rfl, ⟨0, rfl⟩, fun _ h => by omega⟩
    case round =>
      obtain ⟨q, hq, hk, rfl, ⟨n, hwr⟩, hall⟩ := hrel
      have HWR := Lib.hid hwr
      have HA := Lib.hid hall
      clear hall
      by_cases hlt : q < l.length
      · have c1 : wr.cell? ⟨b, off + q, none⟩ = some (.int .u8 (byte l q)) := by rw [hwr]; exact H.out q (by omega)
        have c2 : wr.cell? ⟨tb, toff + q, none⟩ = some (.int .u8 (byte t q)) := by rw [hwr]; exact HT.out q (by omega)
        clear hwr
        have lo1 := byte_lo l q
        have hi1 := byte_hi l q
        have hlow1 := HW.out q
        obtain ⟨d, hd⟩ : ∃ d, d = byte l q := ⟨_, rfl⟩
        obtain ⟨c, hc⟩ : ∃ c, c = byte t q := ⟨_, rfl⟩
        rw [← hd] at c1 lo1 hi1
        rw [← hc] at c2 hlow1
        have HD := Lib.hid hd
        have HC := Lib.hid hc
        have hlt2 : (q : Int) < t.length := by omega
        have hlf := lowC_fold d c hlow1 lo1
        clear hd hc hlow1
        cases e1 : (lowC d == c) with
        | true =>
          have HF := Lib.hid (show ∀ j, j < q + 1 → fold1 (byte l j) (byte t j) = true from by
            intro j hj
            by_cases e : j = q
            · subst e; rw [← HD.out, ← HC.out, ← hlf, e1]
            · exact HA.out j (by omega))
          have e2 : (lowC d != c) = false := by rw [bne, e1]; rfl
          clear hlf
          go_wp2
          go_quiet ((go_at_call 154; exact Calls.quiet_of_same ((lower1_any _ _ lo1 hi1).mono fun _ _ ⟨a, b⟩ => ⟨a, b.symm⟩)))
          go_wp2
          go_roundg (l.length - (q + 1))
          case measure => omega
          case rel => exact ⟨q + 1, by omega, rfl, by go_num, ⟨n + nq, by rw [HWR.out, World.drewN_drewN]⟩, HF.out⟩
        | false =>
          have HF := Lib.hid (show eqFold l t = false from eqFold_no q (by omega) (by rw [← HD.out, ← HC.out, ← hlf, e1]))
          have e2 : (lowC d != c) = true := by rw [bne, e1]; rfl
          clear hlf
          go_wp2
          go_quiet ((go_at_call 154; exact Calls.quiet_of_same ((lower1_any _ _ lo1 hi1).mono fun _ _ ⟨a, b⟩ => ⟨a, b.symm⟩)))
          go_wp2
          go_ret
          exact ⟨ret_bool HF.out.symm, n + nq, by rw [HWR.out, World.drewN_drewN]⟩
      · have H := Lib.hid (show eqFold l t = true from eqFold_yes HL.out fun i hi => HA.out i (by omega))
        clear hwr
        go_wp2
        go_ret
        exact ⟨ret_bool H.out.symm, n, HWR.out⟩
  · have H := Lib.hid (eqFold_len hlen)
    have b1 : ((l.length : Int) != (t.length : Int)) = true := by rw [bne_iff_ne]; omega
    clear hlen
    go_enter Tryz.func140, Tryz.ntmps140
    go_wp2
    go_ret
    exact ⟨ret_bool H.out.symm, 0, rfl⟩
end Go.Proofs.YtlglijnaeaonpaaGreatDoor.Css
