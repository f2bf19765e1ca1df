/- The reference's reader: addresses, names and functions. -/
import Derived.Test.YtlglijnaeaonpaaGreatDoorMk
set_option linter.all false
/- The reference's reader: addresses, names and functions. -/
namespace Go.Proofs.YtlglijnaeaonpaaGreatDoor.Css
open Go.RowKit

/-- What is known of an address that has been read from p on, behind its parenthesis. -/
def AddA (R : Rx) (p : Nat) (tt : Int) (q : Nat) (o' : Bool) : Prop := o' = false → NoBs R.t → NoZ R.t → tt = 7 ∧ ∃ b c, (byte R.t (spanEnd R.t isWS p) == 34) = false ∧ (byte R.t (spanEnd R.t isWS p) == 39) = false ∧ spanEnd R.t isUb (spanEnd R.t isWS p) = b ∧
  (byte R.t b = 41 ∨ isWS (byte R.t b) = true) ∧ spanEnd R.t isWS b = c ∧ byte R.t c = 41 ∧ q = c + 1
/-- The address that begins at a place is left open. -/
def addO (t : List UInt8) (p : Nat) : Bool :=
  !(byte t (spanEnd t isUb (spanEnd t isWS p)) == 41) && !(isWS (byte t (spanEnd t isUb (spanEnd t isWS p))) && byte t (spanEnd t isWS (spanEnd t isUb (spanEnd t isWS p))) == 41)
def AddK (R : Rx) (p : Nat) (o : Bool) (tt : Int) (q : Nat) (o' : Bool) : Prop := AddA R p tt q o' ∧ (NoBs R.t → o' = (o || addO R.t p))
def RAdr (R : Rx) (w0 : World) (p : Nat) (o : Bool) (e : Ending) (w' : World) : Prop :=
  ∃ (tt : Int) (q : Nat) (o' : Bool), e = .returned (.string (knm tt)) ∧ R.At w0 w' q o' ∧ p ≤ q ∧ (o = true → o' = true) ∧ (tt = 7 ∨ tt = 8) ∧ AddK R p o tt q o'

theorem isUb_of {c : Int} (hws : isWS c = false) (h34 : (c == 34) = false) (h39 : (c == 39) = false) (h40 : (c == 40) = false) (h41 : (c == 41) = false) (hct : isCt c = false) (h92 : (c == 92) = false) : isUb c = true := by
  have h1 := isWS_no hws
  simp only [isCt, Bool.or_eq_false_iff, Bool.and_eq_false_iff, decide_eq_false_iff_not, beq_eq_false_iff_ne] at hct
  simp only [isUb, h34, h39, h40, h41, h92, Bool.not_false, Bool.and_true, Bool.and_eq_true, decide_eq_true_eq]
  refine ⟨by omega, ?_⟩
  simp; omega
theorem isUb_ws {c : Int} (h : isWS c = true) : isUb c = false := by
  have := isWS_yes h
  rw [isUb, decide_eq_false (by omega)]; rfl
theorem isUb_ct {c : Int} (hw : isWS c = false) (h : isCt c = true) : isUb c = false := by
  simp only [isCt, Bool.or_eq_true, Bool.and_eq_true, decide_eq_true_eq, beq_iff_eq] at h
  cases hu : isUb c with
  | false => rfl
  | true =>
    have := isUb_yes hu
    have h127 := beq_eq_false_iff_ne.1 this.2.2.2.2.2.2.2.2
    omega
/-- The address ends at b. -/
theorem add_done {t : List UInt8} {a b : Nat} (h : spanEnd t isUb a = b) (hb : byte t b = 41 ∨ isWS (byte t b) = true) : (byte t a == 34) = false ∧ (byte t a == 39) = false := by
  cases hu : isUb (byte t a) with
  | true => have := isUb_yes hu; exact ⟨this.2.2.2.1, this.2.2.2.2.1⟩
  | false =>
    rw [spanEnd_stop (f := isUb) hu] at h
    subst h
    rcases hb with hb | hb
    · rw [hb]; exact ⟨rfl, rfl⟩
    · have := isWS_yes hb; exact ⟨beq_eq_false_iff_ne.2 (by omega), beq_eq_false_iff_ne.2 (by omega)⟩

section
variable (R : Rx) (w0 w : World) (p : Nat) (o : Bool) (h : R.At w0 w p o)
include h
set_option maxRecDepth 100000 in
set_option maxHeartbeats 2000000 in
theorem address_any : Calls Tryz.prog 141 #[.pointer (some ⟨R.g, 0, none⟩)] w (RAdr R w0 p o) := by
  have hbig := h.big
  have hcp := h.cp
  obtain ⟨a, ha⟩ : ∃ a, a = spanEnd R.t isWS p := ⟨_, rfl⟩
  have hpa := spanEnd_ge R.t isWS p
  have hal := spanEnd_le R.t isWS p h.pl
  have hbl := blanks_any R w0 w p o h
  have HK := Lib.hid (show ∀ tt q o', AddA R p tt q o' = (o' = false → NoBs R.t → NoZ R.t → tt = 7 ∧ ∃ b c, (byte R.t a == 34) = false ∧ (byte R.t a == 39) = false ∧ spanEnd R.t isUb a = b ∧ (byte R.t b = 41 ∨ isWS (byte R.t b) = true) ∧ spanEnd R.t isWS b = c ∧ byte R.t c = 41 ∧ q = c + 1) from fun tt q o' => by rw [AddA, ha])
  have HAO := Lib.hid (show ∀ b, spanEnd R.t isUb a = b → addO R.t p = (!(byte R.t b == 41) && !(isWS (byte R.t b) && byte R.t (spanEnd R.t isWS b) == 41)) from fun b hb => by rw [addO, ← ha, hb])
  rw [← ha] at hpa hal hbl
  clear ha h
  go_enter Tryz.func141, Tryz.ntmps141
  go_wp2_with (go_at_call 106; ((with_reducible refine hbl.mono ?_); (rintro e w' ⟨rfl, hA⟩)))
  go_loopg [] (R.t.length - a) (fun k wr => ∃ q o', a ≤ q ∧ q ≤ R.t.length ∧ k = R.t.length - q ∧ R.At w0 wr q o' ∧ (o = true → o' = true) ∧ (NoBs R.t → spanEnd R.t isUb q = spanEnd R.t isUb a ∧ o' = o))
  case atStart => exact ⟨a, o, Nat.le_refl _, hal, rfl, by assumption, id, fun _ => ⟨rfl, rfl⟩⟩
  case round =>
    clear hA
    obtain ⟨q, o', hq1, hq2, hk, hA, hoo, hE⟩ := hrel
    have HE := Lib.hid hE
    have HO := Lib.hid hoo
    clear hE hoo
    by_cases hov : R.t.length ≤ q
    · have HOPN := Lib.hid (show NoBs R.t → true = (o || addO R.t p) from fun hn => by
        rw [HAO.out q (by rw [← (HE.out hn).1]; exact spanEnd_stop (f := isUb) (by rw [byte_end _ _ hov]; decide)), byte_end _ _ hov]; simp [isWS])
      go_wp2_with (first | (go_at_call 67; ((with_reducible refine ((rover_any R w0 _ _ _ (by first | exact Rx.At.inc1 (by assumption) (by omega) | exact Rx.At.inc2 (by assumption) (by omega) | exact Rx.At.set2 (by assumption) _ | assumption))).mono ?_); (rintro e w' ⟨rfl, hA⟩); (have r0 := Rx.At.c0 hA; have r1 := Rx.At.c1 hA; have r2 := Rx.At.c2 hA; have rf := Rx.At.f hA))) | (go_at_call 104; ((with_reducible refine ((rpeek0 R w0 _ _ _ (by first | exact Rx.At.inc1 (by assumption) (by omega) | exact Rx.At.inc2 (by assumption) (by omega) | exact Rx.At.set2 (by assumption) _ | assumption))).mono ?_); (rintro e w' ⟨rfl, hA⟩); (have r0 := Rx.At.c0 hA; have r1 := Rx.At.c1 hA; have r2 := Rx.At.c2 hA; have rf := Rx.At.f hA))))
      go_ret
      exact ⟨7, q, true, rfl, Rx.At.set2 (by assumption) true, by omega, fun _ => rfl, .inl rfl, (by rw [HK.out]; intro h2; cases h2), HOPN.out⟩
    · have hlq : q + 1 ≤ R.t.length := by omega
      have hws41 : isWS 41 = false := by decide
      cases h41 : (byte R.t q == 41) with
      | true =>
        have H41 := Lib.hid h41
        clear hws41
        go_wp2_with (first | (go_at_call 67; ((with_reducible refine ((rover_any R w0 _ _ _ (by first | exact Rx.At.inc1 (by assumption) (by omega) | exact Rx.At.inc2 (by assumption) (by omega) | exact Rx.At.set2 (by assumption) _ | assumption))).mono ?_); (rintro e w' ⟨rfl, hA⟩); (have r0 := Rx.At.c0 hA; have r1 := Rx.At.c1 hA; have r2 := Rx.At.c2 hA; have rf := Rx.At.f hA))) | (go_at_call 104; ((with_reducible refine ((rpeek0 R w0 _ _ _ (by first | exact Rx.At.inc1 (by assumption) (by omega) | exact Rx.At.inc2 (by assumption) (by omega) | exact Rx.At.set2 (by assumption) _ | assumption))).mono ?_); (rintro e w' ⟨rfl, hA⟩); (have r0 := Rx.At.c0 hA; have r1 := Rx.At.c1 hA; have r2 := Rx.At.c2 hA; have rf := Rx.At.f hA))))
        go_ret
        refine ⟨7, q + 1, o', rfl, Rx.At.inc1 (by assumption) (by omega), by omega, HO.out, .inl rfl, ?_, fun hn => ?_⟩
        rotate_left
        · rw [HAO.out q (by rw [← (HE.out hn).1]; exact spanEnd_stop (f := isUb) (by rw [beq_iff_eq.1 H41.out]; decide)), H41.out, (HE.out hn).2]; simp
        rw [HK.out]
        intro h2 hn hz
        have hc := beq_iff_eq.1 H41.out
        have hs : spanEnd R.t isUb a = q := by rw [← (HE.out hn).1]; exact spanEnd_stop (f := isUb) (by rw [hc]; decide)
        obtain ⟨a1, a2⟩ := add_done hs (.inl hc)
        exact ⟨rfl, q, q, a1, a2, hs, .inl hc, spanEnd_stop (f := isWS) (by rw [hc]; decide), hc, rfl⟩
      | false =>
        clear hws41
        cases hws : isWS (byte R.t q) with
        | true =>
          have HWS := Lib.hid hws
          have hcl := spanEnd_le R.t isWS q hq2
          have hcg := spanEnd_ge R.t isWS q
          obtain ⟨c, hc⟩ : ∃ c, c = spanEnd R.t isWS q := ⟨_, rfl⟩
          have HBL := fun (w' : World) (hA : R.At w0 w' q o') => blanks_any R w0 w' q o' hA
          rw [← hc] at hcl hcg HBL
          have HC := Lib.hid hc
          clear hc
          cases hcc : (byte R.t c == 41) with
          | true =>
            have HCC := Lib.hid (beq_iff_eq.1 hcc)
            have hlc := lt_of_byte (t := R.t) (p := c) (by rw [beq_iff_eq.1 hcc]; decide)
            go_wp2_with (first | (go_at_call 67; ((with_reducible refine ((rover_any R w0 _ _ _ (by first | exact Rx.At.inc1 (by assumption) (by omega) | exact Rx.At.inc2 (by assumption) (by omega) | exact Rx.At.set2 (by assumption) _ | assumption))).mono ?_); (rintro e w' ⟨rfl, hA⟩); (have r0 := Rx.At.c0 hA; have r1 := Rx.At.c1 hA; have r2 := Rx.At.c2 hA; have rf := Rx.At.f hA))) | (go_at_call 104; ((with_reducible refine ((rpeek0 R w0 _ _ _ (by first | exact Rx.At.inc1 (by assumption) (by omega) | exact Rx.At.inc2 (by assumption) (by omega) | exact Rx.At.set2 (by assumption) _ | assumption))).mono ?_); (rintro e w' ⟨rfl, hA⟩); (have r0 := Rx.At.c0 hA; have r1 := Rx.At.c1 hA; have r2 := Rx.At.c2 hA; have rf := Rx.At.f hA))) | (go_at_call 105; ((with_reducible refine ((blank_any _ _ (byte_lo _ _) (byte_hi _ _))).mono ?_); (rintro e w' ⟨rfl, rfl⟩))) | (go_at_call 106; ((with_reducible refine (HBL _ (by assumption)).mono ?_); (rintro e w' ⟨rfl, hA⟩))))
            go_ret
            refine ⟨7, c + 1, o', rfl, Rx.At.inc1 (by assumption) (by omega), by omega, HO.out, .inl rfl, ?_, fun hn => ?_⟩
            rotate_left
            · rw [HAO.out q (by rw [← (HE.out hn).1]; exact spanEnd_stop (f := isUb) (isUb_ws HWS.out)), HWS.out, ← HC.out, HCC.out, (HE.out hn).2]; simp
            rw [HK.out]
            intro h2 hn hz
            have hs : spanEnd R.t isUb a = q := by
              rw [← (HE.out hn).1]
              refine spanEnd_stop (f := isUb) ?_
              have := isWS_yes HWS.out
              rw [isUb, decide_eq_false (by omega)]; rfl
            obtain ⟨a1, a2⟩ := add_done hs (.inr HWS.out)
            exact ⟨rfl, q, c, a1, a2, hs, .inr HWS.out, HC.out.symm, HCC.out, rfl⟩
          | false =>
            have HOPN := Lib.hid (show NoBs R.t → true = (o || addO R.t p) from fun hn => by
              rw [HAO.out q (by rw [← (HE.out hn).1]; exact spanEnd_stop (f := isUb) (isUb_ws HWS.out)), ← HC.out, hcc, h41]; simp)
            have HW := fun (w' : World) (hA : R.At w0 w' c o') => wrong_any R w0 w' c o' hA
            go_wp2_with (first | (go_at_call 67; ((with_reducible refine ((rover_any R w0 _ _ _ (by first | exact Rx.At.inc1 (by assumption) (by omega) | exact Rx.At.inc2 (by assumption) (by omega) | exact Rx.At.set2 (by assumption) _ | assumption))).mono ?_); (rintro e w' ⟨rfl, hA⟩); (have r0 := Rx.At.c0 hA; have r1 := Rx.At.c1 hA; have r2 := Rx.At.c2 hA; have rf := Rx.At.f hA))) | (go_at_call 104; ((with_reducible refine ((rpeek0 R w0 _ _ _ (by first | exact Rx.At.inc1 (by assumption) (by omega) | exact Rx.At.inc2 (by assumption) (by omega) | exact Rx.At.set2 (by assumption) _ | assumption))).mono ?_); (rintro e w' ⟨rfl, hA⟩); (have r0 := Rx.At.c0 hA; have r1 := Rx.At.c1 hA; have r2 := Rx.At.c2 hA; have rf := Rx.At.f hA))) | (go_at_call 105; ((with_reducible refine ((blank_any _ _ (byte_lo _ _) (byte_hi _ _))).mono ?_); (rintro e w' ⟨rfl, rfl⟩))) | (go_at_call 106; ((with_reducible refine (HBL _ (by assumption)).mono ?_); (rintro e w' ⟨rfl, hA⟩))) | (go_at_call 155; ((with_reducible refine (HW _ (by assumption)).mono ?_); (rintro e w' ⟨rfl, hA⟩))))
            go_ret
            exact ⟨8, c, true, rfl, by assumption, by omega, fun _ => rfl, .inr rfl, (by rw [HK.out]; intro h2; cases h2), HOPN.out⟩
        | false =>
          have HW := fun (w' : World) (o2 : Bool) (hA : R.At w0 w' q o2) => wrong_any R w0 w' q o2 hA
          have HWS := Lib.hid hws
          have H41 := Lib.hid h41
          have HOPB := Lib.hid (show isUb (byte R.t q) = false → NoBs R.t → true = (o || addO R.t p) from fun hu hn => by
            rw [HAO.out q (by rw [← (HE.out hn).1]; exact spanEnd_stop (f := isUb) hu), HWS.out, H41.out]; simp)
          cases h34 : (byte R.t q == 34) with
          | true =>
            have HOPN := Lib.hid (HOPB.out (by rw [beq_iff_eq.1 h34]; decide))
            go_wp2_with (first | (go_at_call 67; ((with_reducible refine ((rover_any R w0 _ _ _ (by first | exact Rx.At.inc1 (by assumption) (by omega) | exact Rx.At.inc2 (by assumption) (by omega) | exact Rx.At.set2 (by assumption) _ | assumption))).mono ?_); (rintro e w' ⟨rfl, hA⟩); (have r0 := Rx.At.c0 hA; have r1 := Rx.At.c1 hA; have r2 := Rx.At.c2 hA; have rf := Rx.At.f hA))) | (go_at_call 104; ((with_reducible refine ((rpeek0 R w0 _ _ _ (by first | exact Rx.At.inc1 (by assumption) (by omega) | exact Rx.At.inc2 (by assumption) (by omega) | exact Rx.At.set2 (by assumption) _ | assumption))).mono ?_); (rintro e w' ⟨rfl, hA⟩); (have r0 := Rx.At.c0 hA; have r1 := Rx.At.c1 hA; have r2 := Rx.At.c2 hA; have rf := Rx.At.f hA))) | (go_at_call 105; ((with_reducible refine ((blank_any _ _ (byte_lo _ _) (byte_hi _ _))).mono ?_); (rintro e w' ⟨rfl, rfl⟩))) | (go_at_call 156; ((with_reducible refine ((control_any _ _ (byte_lo _ _) (byte_hi _ _))).mono ?_); (rintro e w' ⟨rfl, rfl⟩))) | (go_at_call 155; ((with_reducible refine (HW _ _ (by assumption)).mono ?_); (rintro e w' ⟨rfl, hA⟩))))
            go_ret
            exact ⟨8, q, true, rfl, by assumption, by omega, fun _ => rfl, .inr rfl, (by rw [HK.out]; intro h2; cases h2), HOPN.out⟩
          | false =>
          cases h39 : (byte R.t q == 39) with
          | true =>
            have HOPN := Lib.hid (HOPB.out (by rw [beq_iff_eq.1 h39]; decide))
            go_wp2_with (first | (go_at_call 67; ((with_reducible refine ((rover_any R w0 _ _ _ (by first | exact Rx.At.inc1 (by assumption) (by omega) | exact Rx.At.inc2 (by assumption) (by omega) | exact Rx.At.set2 (by assumption) _ | assumption))).mono ?_); (rintro e w' ⟨rfl, hA⟩); (have r0 := Rx.At.c0 hA; have r1 := Rx.At.c1 hA; have r2 := Rx.At.c2 hA; have rf := Rx.At.f hA))) | (go_at_call 104; ((with_reducible refine ((rpeek0 R w0 _ _ _ (by first | exact Rx.At.inc1 (by assumption) (by omega) | exact Rx.At.inc2 (by assumption) (by omega) | exact Rx.At.set2 (by assumption) _ | assumption))).mono ?_); (rintro e w' ⟨rfl, hA⟩); (have r0 := Rx.At.c0 hA; have r1 := Rx.At.c1 hA; have r2 := Rx.At.c2 hA; have rf := Rx.At.f hA))) | (go_at_call 105; ((with_reducible refine ((blank_any _ _ (byte_lo _ _) (byte_hi _ _))).mono ?_); (rintro e w' ⟨rfl, rfl⟩))) | (go_at_call 156; ((with_reducible refine ((control_any _ _ (byte_lo _ _) (byte_hi _ _))).mono ?_); (rintro e w' ⟨rfl, rfl⟩))) | (go_at_call 155; ((with_reducible refine (HW _ _ (by assumption)).mono ?_); (rintro e w' ⟨rfl, hA⟩))))
            go_ret
            exact ⟨8, q, true, rfl, by assumption, by omega, fun _ => rfl, .inr rfl, (by rw [HK.out]; intro h2; cases h2), HOPN.out⟩
          | false =>
          cases h40 : (byte R.t q == 40) with
          | true =>
            have HOPN := Lib.hid (HOPB.out (by rw [beq_iff_eq.1 h40]; decide))
            go_wp2_with (first | (go_at_call 67; ((with_reducible refine ((rover_any R w0 _ _ _ (by first | exact Rx.At.inc1 (by assumption) (by omega) | exact Rx.At.inc2 (by assumption) (by omega) | exact Rx.At.set2 (by assumption) _ | assumption))).mono ?_); (rintro e w' ⟨rfl, hA⟩); (have r0 := Rx.At.c0 hA; have r1 := Rx.At.c1 hA; have r2 := Rx.At.c2 hA; have rf := Rx.At.f hA))) | (go_at_call 104; ((with_reducible refine ((rpeek0 R w0 _ _ _ (by first | exact Rx.At.inc1 (by assumption) (by omega) | exact Rx.At.inc2 (by assumption) (by omega) | exact Rx.At.set2 (by assumption) _ | assumption))).mono ?_); (rintro e w' ⟨rfl, hA⟩); (have r0 := Rx.At.c0 hA; have r1 := Rx.At.c1 hA; have r2 := Rx.At.c2 hA; have rf := Rx.At.f hA))) | (go_at_call 105; ((with_reducible refine ((blank_any _ _ (byte_lo _ _) (byte_hi _ _))).mono ?_); (rintro e w' ⟨rfl, rfl⟩))) | (go_at_call 156; ((with_reducible refine ((control_any _ _ (byte_lo _ _) (byte_hi _ _))).mono ?_); (rintro e w' ⟨rfl, rfl⟩))) | (go_at_call 155; ((with_reducible refine (HW _ _ (by assumption)).mono ?_); (rintro e w' ⟨rfl, hA⟩))))
            go_ret
            exact ⟨8, q, true, rfl, by assumption, by omega, fun _ => rfl, .inr rfl, (by rw [HK.out]; intro h2; cases h2), HOPN.out⟩
          | false =>
          cases hct : isCt (byte R.t q) with
          | true =>
            have HOPN := Lib.hid (HOPB.out (isUb_ct hws hct))
            go_wp2_with (first | (go_at_call 67; ((with_reducible refine ((rover_any R w0 _ _ _ (by first | exact Rx.At.inc1 (by assumption) (by omega) | exact Rx.At.inc2 (by assumption) (by omega) | exact Rx.At.set2 (by assumption) _ | assumption))).mono ?_); (rintro e w' ⟨rfl, hA⟩); (have r0 := Rx.At.c0 hA; have r1 := Rx.At.c1 hA; have r2 := Rx.At.c2 hA; have rf := Rx.At.f hA))) | (go_at_call 104; ((with_reducible refine ((rpeek0 R w0 _ _ _ (by first | exact Rx.At.inc1 (by assumption) (by omega) | exact Rx.At.inc2 (by assumption) (by omega) | exact Rx.At.set2 (by assumption) _ | assumption))).mono ?_); (rintro e w' ⟨rfl, hA⟩); (have r0 := Rx.At.c0 hA; have r1 := Rx.At.c1 hA; have r2 := Rx.At.c2 hA; have rf := Rx.At.f hA))) | (go_at_call 105; ((with_reducible refine ((blank_any _ _ (byte_lo _ _) (byte_hi _ _))).mono ?_); (rintro e w' ⟨rfl, rfl⟩))) | (go_at_call 156; ((with_reducible refine ((control_any _ _ (byte_lo _ _) (byte_hi _ _))).mono ?_); (rintro e w' ⟨rfl, rfl⟩))) | (go_at_call 155; ((with_reducible refine (HW _ _ (by assumption)).mono ?_); (rintro e w' ⟨rfl, hA⟩))))
            go_ret
            exact ⟨8, q, true, rfl, by assumption, by omega, fun _ => rfl, .inr rfl, (by rw [HK.out]; intro h2; cases h2), HOPN.out⟩
          | false =>
          cases h92 : (byte R.t q == 92) with
          | true =>
            have HB := Lib.hid (show ¬ NoBs R.t from fun hn => hn q (beq_iff_eq.1 h92))
            cases he : escB R.t q with
            | true =>
              have HI := Lib.hid he
              go_wp2_with (first | (go_at_call 67; ((with_reducible refine ((rover_any R w0 _ _ _ (by first | exact Rx.At.inc1 (by assumption) (by omega) | exact Rx.At.inc2 (by assumption) (by omega) | exact Rx.At.set2 (by assumption) _ | assumption))).mono ?_); (rintro e w' ⟨rfl, hA⟩); (have r0 := Rx.At.c0 hA; have r1 := Rx.At.c1 hA; have r2 := Rx.At.c2 hA; have rf := Rx.At.f hA))) | (go_at_call 104; ((with_reducible refine ((rpeek0 R w0 _ _ _ (by first | exact Rx.At.inc1 (by assumption) (by omega) | exact Rx.At.inc2 (by assumption) (by omega) | exact Rx.At.set2 (by assumption) _ | assumption))).mono ?_); (rintro e w' ⟨rfl, hA⟩); (have r0 := Rx.At.c0 hA; have r1 := Rx.At.c1 hA; have r2 := Rx.At.c2 hA; have rf := Rx.At.f hA))) | (go_at_call 105; ((with_reducible refine ((blank_any _ _ (byte_lo _ _) (byte_hi _ _))).mono ?_); (rintro e w' ⟨rfl, rfl⟩))) | (go_at_call 156; ((with_reducible refine ((control_any _ _ (byte_lo _ _) (byte_hi _ _))).mono ?_); (rintro e w' ⟨rfl, rfl⟩))) | (go_at_call 135; ((with_reducible refine ((escapes0 R w0 _ _ _ (by first | exact Rx.At.inc1 (by assumption) (by omega) | exact Rx.At.inc2 (by assumption) (by omega) | exact Rx.At.set2 (by assumption) _ | assumption))).mono ?_); (rintro e w' ⟨rfl, hA⟩); (have r0 := Rx.At.c0 hA; have r1 := Rx.At.c1 hA; have r2 := Rx.At.c2 hA; have rf := Rx.At.f hA))) | (go_at_call 136; ((with_reducible refine (escape_any R w0 _ _ _ (by first | exact Rx.At.inc1 (by assumption) (by omega) | exact Rx.At.inc2 (by assumption) (by omega) | exact Rx.At.set2 (by assumption) _ | assumption) HI.out).mono ?_); (rintro e w' ⟨rfl, q', o2, hA, hq', ho2⟩))))
              go_roundg (R.t.length - q')
              case measure => have := hA.pl; omega
              case rel => exact ⟨q', o2, by omega, hA.pl, rfl, hA, fun ho => ho2 (by rw [HO.out ho]; rfl), fun hn => absurd hn HB.out⟩
            | false =>
              have HOPN := Lib.hid (show NoBs R.t → true = (o || addO R.t p) from fun hn => absurd hn HB.out)
              go_wp2_with (first | (go_at_call 67; ((with_reducible refine ((rover_any R w0 _ _ _ (by first | exact Rx.At.inc1 (by assumption) (by omega) | exact Rx.At.inc2 (by assumption) (by omega) | exact Rx.At.set2 (by assumption) _ | assumption))).mono ?_); (rintro e w' ⟨rfl, hA⟩); (have r0 := Rx.At.c0 hA; have r1 := Rx.At.c1 hA; have r2 := Rx.At.c2 hA; have rf := Rx.At.f hA))) | (go_at_call 104; ((with_reducible refine ((rpeek0 R w0 _ _ _ (by first | exact Rx.At.inc1 (by assumption) (by omega) | exact Rx.At.inc2 (by assumption) (by omega) | exact Rx.At.set2 (by assumption) _ | assumption))).mono ?_); (rintro e w' ⟨rfl, hA⟩); (have r0 := Rx.At.c0 hA; have r1 := Rx.At.c1 hA; have r2 := Rx.At.c2 hA; have rf := Rx.At.f hA))) | (go_at_call 105; ((with_reducible refine ((blank_any _ _ (byte_lo _ _) (byte_hi _ _))).mono ?_); (rintro e w' ⟨rfl, rfl⟩))) | (go_at_call 156; ((with_reducible refine ((control_any _ _ (byte_lo _ _) (byte_hi _ _))).mono ?_); (rintro e w' ⟨rfl, rfl⟩))) | (go_at_call 135; ((with_reducible refine ((escapes0 R w0 _ _ _ (by first | exact Rx.At.inc1 (by assumption) (by omega) | exact Rx.At.inc2 (by assumption) (by omega) | exact Rx.At.set2 (by assumption) _ | assumption))).mono ?_); (rintro e w' ⟨rfl, hA⟩); (have r0 := Rx.At.c0 hA; have r1 := Rx.At.c1 hA; have r2 := Rx.At.c2 hA; have rf := Rx.At.f hA))) | (go_at_call 155; ((with_reducible refine (HW _ _ (by assumption)).mono ?_); (rintro e w' ⟨rfl, hA⟩))))
              go_ret
              exact ⟨8, q, true, rfl, by assumption, by omega, fun _ => rfl, .inr rfl, (by rw [HK.out]; intro h2; cases h2), HOPN.out⟩
          | false =>
            have HU := Lib.hid (spanEnd_step (f := isUb) (t := R.t) (p := q) rfl (isUb_of hws h34 h39 h40 h41 hct h92))
            go_wp2_with (first | (go_at_call 67; ((with_reducible refine ((rover_any R w0 _ _ _ (by first | exact Rx.At.inc1 (by assumption) (by omega) | exact Rx.At.inc2 (by assumption) (by omega) | exact Rx.At.set2 (by assumption) _ | assumption))).mono ?_); (rintro e w' ⟨rfl, hA⟩); (have r0 := Rx.At.c0 hA; have r1 := Rx.At.c1 hA; have r2 := Rx.At.c2 hA; have rf := Rx.At.f hA))) | (go_at_call 104; ((with_reducible refine ((rpeek0 R w0 _ _ _ (by first | exact Rx.At.inc1 (by assumption) (by omega) | exact Rx.At.inc2 (by assumption) (by omega) | exact Rx.At.set2 (by assumption) _ | assumption))).mono ?_); (rintro e w' ⟨rfl, hA⟩); (have r0 := Rx.At.c0 hA; have r1 := Rx.At.c1 hA; have r2 := Rx.At.c2 hA; have rf := Rx.At.f hA))) | (go_at_call 105; ((with_reducible refine ((blank_any _ _ (byte_lo _ _) (byte_hi _ _))).mono ?_); (rintro e w' ⟨rfl, rfl⟩))) | (go_at_call 156; ((with_reducible refine ((control_any _ _ (byte_lo _ _) (byte_hi _ _))).mono ?_); (rintro e w' ⟨rfl, rfl⟩))))
            go_roundg (R.t.length - (q + 1))
            case measure => omega
            case rel => exact ⟨q + 1, o', by omega, by omega, rfl, Rx.At.inc1 (by assumption) (by omega), HO.out, fun hn => ⟨HU.out.symm.trans (HE.out hn).1, (HE.out hn).2⟩⟩

omit h
theorem sfold_n (w : World) (b off n cap tb : Nat) (l : List UInt8) (hn : l.length = n) (h : Lies w b off l) (ht : Lies w tb 0 urlWord) (hl : n ≤ 140737488351232) (r : Bool) (hr : eqFold l urlWord = r) :
    Calls Tryz.prog 140 #[.slice (some ⟨b, off, none⟩) n cap, .slice (some ⟨tb, 0, none⟩) 3 3] w fun e w' => e = .returned (.bool r) ∧ ∃ n, w' = w.drewN n := by
  subst hn
  subst hr
  exact sfold_any w b off cap tb 0 3 l urlWord h ht hl urlWord_low
theorem has_n (w : World) (b off n cap : Nat) (l : List UInt8) (hn : l.length = n) (h : Lies w b off l) (hl : n ≤ 140737488351232) (c : Int) (r : Bool) (hr : hasB l c = r) :
    Calls Tryz.prog 53 #[.slice (some ⟨b, off, none⟩) n cap, .int .u8 c] w fun e w' => e = .returned (.bool r) ∧ w = w' := by
  subst hn
  subst hr
  exact has_any w _ l c ⟨_, _, rfl, fun _ => ⟨_, _, rfl, h⟩⟩ hl
theorem url_lies3 (w : World) (o : Nat × Nat) (b : Nat) (hb : b = w.heap.size) : Lies (w.alloc (.cells #[.int .u8 117, .int .u8 114, .int .u8 108] 5 o)) b 0 urlWord := by
  subst hb
  intro i hi
  have hi' : i < 3 := hi
  rw [Nat.zero_add, cell_at (alloc_new _ _)]
  match i, hi' with
  | 0, _ => rfl
  | 1, _ => rfl
  | 2, _ => rfl
theorem Rx.At.seg {R : Rx} {w0 w : World} {p : Nat} {o : Bool} (h : R.At w0 w p o) {a b : Nat} (hb : b ≤ R.t.length) : Lies w R.b (R.off + a) (seg R.t a b) := by
  intro i hi
  rw [seg_length hb] at hi
  rw [byte_seg hi, Nat.add_assoc]
  exact h.txt (a + i) (by omega)
include h

/-- What is known of a name, a function or an address that has been read. -/
def idlO (t : List UInt8) (p : Nat) : Bool := byte t (spanEnd t isNm p) == 40 && eqFold (seg t p (spanEnd t isNm p)) urlWord && addO t (spanEnd t isNm p + 1)
def IdK (R : Rx) (p : Nat) (o : Bool) (tt : Int) (q : Nat) (o' : Bool) : Prop := (NoBs R.t → o' = (o || idlO R.t p)) ∧ (o' = false → NoBs R.t → NoZ R.t → ∀ p1, isSt (byte R.t p1) = true → spanEnd R.t isNm p = spanEnd R.t isNm (p1 + 1) → IL R.t p p1 tt q)

set_option maxRecDepth 100000 in
set_option maxHeartbeats 2000000 in
theorem identLike_any (hid : idB R.t p = true) : Calls Tryz.prog 114 #[.pointer (some ⟨R.g, 0, none⟩)] w (RTok R w0 p o (IdK R p o)) := by
  have HI := Lib.hid hid
  have r0 := h.c0
  have r1 := h.c1
  have hbig := h.big
  have hcp := h.cp
  have hnm := name_any R w0 w p o h
  clear hid
  have kc := fun (w : World) (C : Array Value) (n c : Nat) => Lib.run_convert_bytes_const (P := Tryz.prog) w 24 5 C n c Tryz.underlying24 Tryz.underlying5
  go_enter Tryz.func114, Tryz.ntmps114
  go_upto_region 3 with (go_at_call 139; ((with_reducible refine hnm.mono ?_); (rintro e w' ⟨rfl, q, o1, hA, hq, ho1, hnb, hgo⟩)))
  have hgo' := hgo (idB_go HI.out)
  have hql := hA.pl
  have HNB := Lib.hid hnb
  have HO := Lib.hid ho1
  clear hnm r0 r1 hnb hgo ho1
  cases h40 : (byte R.t q == 40) with
  | false =>
    have H40 := Lib.hid h40
    have h40' : (byte R.t q != 40) = true := by rw [bne, h40]; rfl
    clear h40
    go_wp2_with (first | (go_at_call 104; ((with_reducible refine ((rpeek0 R w0 _ _ _ (by first | exact Rx.At.inc1 (by assumption) (by omega) | exact Rx.At.inc2 (by assumption) (by omega) | exact Rx.At.set2 (by assumption) _ | assumption))).mono ?_); (rintro e w' ⟨rfl, hA⟩); (have r0 := Rx.At.c0 hA; have r1 := Rx.At.c1 hA; have r2 := Rx.At.c2 hA; have rf := Rx.At.f hA))))
    go_ret
    refine ⟨1, q, o1, rfl, by assumption, hgo', HO.out, by omega, fun hn => by rw [idlO, ← (HNB.out hn).1, H40.out, (HNB.out hn).2]; simp, fun h2 hn hz p1 hs he => ?_⟩
    have e := (HNB.out hn).1.trans he
    rw [e]
    exact .id hs (by rw [← e]; exact H40.out)
  | true =>
    have H40 := Lib.hid (beq_iff_eq.1 h40)
    have h40' : (byte R.t q != 40) = false := by rw [bne, h40]; rfl
    have hlq := lt_of_byte (t := R.t) (p := q) (by rw [beq_iff_eq.1 h40]; decide)
    have HSL := Lib.hid (seg_length (a := p) (b := q) (t := R.t) (by omega))
    clear h40
    have s1 : (0 : Int) ≤ (p : Int) := by omega
    have s2 : (p : Int) ≤ (q : Int) := by omega
    have s3 : (q : Int) ≤ (R.cap : Int) := by omega
    go_upto_region 5 with (first | (go_at_call 104; ((with_reducible refine ((rpeek0 R w0 _ _ _ (by first | exact Rx.At.inc1 (by assumption) (by omega) | exact Rx.At.inc2 (by assumption) (by omega) | exact Rx.At.set2 (by assumption) _ | assumption))).mono ?_); (rintro e w' ⟨rfl, hA⟩); (have r0 := Rx.At.c0 hA; have r1 := Rx.At.c1 hA; have r2 := Rx.At.c2 hA; have rf := Rx.At.f hA))))
    have s4 : ¬ R.cap = p := by omega
    go_quiet (fail)
    have hA2 := hA.drewN nq
    have hA3 := hA2.inc1 hlq
    have k0 := hA2.c0
    have k1 := hA2.c1
    have kf := hA2.f
    go_upto_region 7 with fail
    obtain ⟨wx, hwx⟩ : ∃ wx, wx = (w'.drewN nq).setCell ⟨R.g, 1, none⟩ (.int .i64 ((q : Int) + 1)) := ⟨_, rfl⟩
    rw [← hwx] at hA3 ⊢
    clear hwx k0 k1 kf hA2 hA r0 r1 r2 rf
    cases hfo : eqFold (seg R.t p q) urlWord with
    | true =>
      have HF := Lib.hid hfo
      clear hfo
      have hcl := fun (w5 : World) (tb : Nat) (hA : R.At w0 w5 (q + 1) o1) (ht : Lies w5 tb 0 urlWord) => sfold_n w5 R.b (R.off + p) (q - p) (R.cap - p) tb (seg R.t p q) HSL.out (hA.seg (by omega)) ht (by omega) true HF.out
      have HAD := fun (w' : World) (hA : R.At w0 w' (q + 1) o1) => address_any R w0 w' (q + 1) o1 hA
      go_wp2_with (first | (go_at_call 140; ((with_reducible refine (hcl _ _ (hA3.alloc _) (url_lies3 _ _ _ (by simp))).mono ?_); (rintro e w5 ⟨rfl, n5, rfl⟩); have hA4 := (hA3.alloc (.cells #[.int .u8 117, .int .u8 114, .int .u8 108] 5 (3, 4))).drewN n5; have m2 := hA4.c2; have mf := hA4.f)) | (go_at_call 141; ((with_reducible refine (HAD _ hA4).mono ?_); (rintro e w6 ⟨tt, q2, o2, rfl, hA6, hq2, ho2, htt, hK⟩))))
      go_ret
      refine ⟨tt, q2, o2, rfl, hA6, by omega, fun ho => ho2 (HO.out ho), by omega, fun hn => by rw [idlO, ← (HNB.out hn).1, H40.out, HF.out, hK.2 hn, (HNB.out hn).2]; simp, fun h2 hn hz p1 hs he => ?_⟩
      obtain ⟨rfl, b, c, b1, b2, b3, b4, b5, b6, rfl⟩ := hK.1 h2 hn hz
      exact .url q _ b c hs (by rw [← he]; exact (HNB.out hn).1.symm) H40.out HF.out rfl ⟨b1, b2⟩ b3 b4 b5 b6
    | false =>
      have HF := Lib.hid hfo
      clear hfo
      have hcl := fun (w5 : World) (tb : Nat) (hA : R.At w0 w5 (q + 1) o1) (ht : Lies w5 tb 0 urlWord) => sfold_n w5 R.b (R.off + p) (q - p) (R.cap - p) tb (seg R.t p q) HSL.out (hA.seg (by omega)) ht (by omega) false HF.out
      cases hha : hasB (seg R.t p q) 92 with
      | false =>
        have hhs := fun (w5 : World) (hA : R.At w0 w5 (q + 1) o1) => has_n w5 R.b (R.off + p) (q - p) (R.cap - p) (seg R.t p q) HSL.out (hA.seg (by omega)) (by omega) 92 false hha
        clear hha
        go_wp2_with (first | (go_at_call 140; ((with_reducible refine (hcl _ _ (hA3.alloc _) (url_lies3 _ _ _ (by simp))).mono ?_); (rintro e w5 ⟨rfl, n5, rfl⟩); have hA4 := (hA3.alloc (.cells #[.int .u8 117, .int .u8 114, .int .u8 108] 5 (3, 4))).drewN n5; have m2 := hA4.c2; have mf := hA4.f)) | (go_at_call 53; ((with_reducible refine (hhs _ hA4).mono ?_); (rintro e w6 ⟨rfl, rfl⟩))))
        go_ret
        refine ⟨2, q + 1, o1, rfl, hA4, by omega, HO.out, by omega, fun hn => by rw [idlO, ← (HNB.out hn).1, HF.out, (HNB.out hn).2]; simp, fun h2 hn hz p1 hs he => ?_⟩
        exact .fn q hs (by rw [← he]; exact (HNB.out hn).1.symm) H40.out HF.out
      | true =>
        have HNO := Lib.hid (show ¬ NoBs R.t from fun hn => by
          have : hasB (seg R.t p q) 92 = false := hasB_false fun i hi => by
            rw [HSL.out] at hi
            rw [byte_seg hi]; exact hn _
          rw [this] at hha; cases hha)
        have hhs := fun (w5 : World) (hA : R.At w0 w5 (q + 1) o1) => has_n w5 R.b (R.off + p) (q - p) (R.cap - p) (seg R.t p q) HSL.out (hA.seg (by omega)) (by omega) 92 true hha
        clear hha
        go_wp2_with (first | (go_at_call 140; ((with_reducible refine (hcl _ _ (hA3.alloc _) (url_lies3 _ _ _ (by simp))).mono ?_); (rintro e w5 ⟨rfl, n5, rfl⟩); have hA4 := (hA3.alloc (.cells #[.int .u8 117, .int .u8 114, .int .u8 108] 5 (3, 4))).drewN n5; have m2 := hA4.c2; have mf := hA4.f)) | (go_at_call 53; ((with_reducible refine (hhs _ hA4).mono ?_); (rintro e w6 ⟨rfl, rfl⟩))))
        go_ret
        exact ⟨2, q + 1, true, rfl, hA4.set2 true, by omega, fun _ => rfl, by omega, fun hn => absurd hn HNO.out, fun h2 => (by cases h2)⟩
end
end Go.Proofs.YtlglijnaeaonpaaGreatDoor.Css
/- The reference's reader: ranges of characters. -/
namespace Go.Proofs.YtlglijnaeaonpaaGreatDoor.Css
open Go.RowKit

section
variable (R : Rx) (w0 w : World) (p : Nat) (o : Bool) (h : R.At w0 w p o)
include h
set_option maxRecDepth 100000 in
set_option maxHeartbeats 2000000 in
theorem codes_any (h1 : p + 2 ≤ R.t.length) : Calls Tryz.prog 112 #[.pointer (some ⟨R.g, 0, none⟩)] w (RTok R w0 p o (fun tt _ _ => tt = 13)) := by
  have hbig := h.big
  have hcp := h.cp
  have r1 := h.c1
  have rf := h.f
  go_enter Tryz.func112, Tryz.ntmps112
  go_upto_block 0 with fail
  go_cut [3] (fun n wx => ∃ q m : Nat, p + 2 ≤ q ∧ m ≤ 6 ∧ n = .int .i64 m ∧ R.At w0 wx q o)
  case first =>
    go_wp2_with fail
    go_loopg [3] (R.t.length - (p + 2)) (fun k n wr => ∃ q m : Nat, p + 2 ≤ q ∧ m ≤ 6 ∧ n = .int .i64 m ∧ k = R.t.length - q ∧ R.At w0 wr q o)
    case atStart => exact ⟨p + 2, 0, by omega, by omega, rfl, rfl, Rx.At.inc2 h (by omega)⟩
    case round =>
      clear r1 rf
      obtain ⟨q, m, hq1, hm, rfl, hk, hA⟩ := hrel
      by_cases hcnd : m < 6 ∧ isHx (byte R.t q) = true
      · obtain ⟨hm6, hxq⟩ := hcnd
        have hv : decide (0 ≤ hexV (byte R.t q)) = true := by rw [hexV_pos _ (byte_lo _ _), hxq]
        have hlq := lt_of_class (f := isHx) rfl hxq
        go_wp2_with (first | (go_at_call 104; ((with_reducible refine ((rpeek0 R w0 _ _ _ (by first | exact Rx.At.inc1 (by assumption) (by omega) | exact Rx.At.inc2 (by assumption) (by omega) | exact Rx.At.set2 (by assumption) _ | assumption))).mono ?_); (rintro e w' ⟨rfl, hA⟩); (have r0 := Rx.At.c0 hA; have r1 := Rx.At.c1 hA; have r2 := Rx.At.c2 hA; have rf := Rx.At.f hA))) | (go_at_call 111; ((with_reducible refine ((hex_any _ _ (byte_lo _ _) (byte_hi _ _))).mono ?_); (rintro e w' ⟨rfl, rfl⟩))))
        go_roundg (R.t.length - (q + 1))
        case measure => omega
        case rel => exact ⟨q + 1, m + 1, by omega, by omega, by go_num, rfl, Rx.At.inc1 (by assumption) (by omega)⟩
      · have hex : (m < 6 ∧ decide (0 ≤ hexV (byte R.t q)) = false) ∨ ¬ m < 6 := by
          by_cases h6 : m < 6
          · refine .inl ⟨h6, ?_⟩
            rw [hexV_pos _ (byte_lo _ _)]
            cases hxq : isHx (byte R.t q) with
            | false => rfl
            | true => exact absurd ⟨h6, hxq⟩ hcnd
          · exact .inr h6
        clear hcnd
        rcases hex with ⟨h6, hv⟩ | h6
        all_goals
          go_wp2_with (first | (go_at_call 104; ((with_reducible refine ((rpeek0 R w0 _ _ _ (by first | exact Rx.At.inc1 (by assumption) (by omega) | exact Rx.At.inc2 (by assumption) (by omega) | exact Rx.At.set2 (by assumption) _ | assumption))).mono ?_); (rintro e w' ⟨rfl, hA⟩); (have r0 := Rx.At.c0 hA; have r1 := Rx.At.c1 hA; have r2 := Rx.At.c2 hA; have rf := Rx.At.f hA))) | (go_at_call 111; ((with_reducible refine ((hex_any _ _ (byte_lo _ _) (byte_hi _ _))).mono ?_); (rintro e w' ⟨rfl, rfl⟩))))
          go_meet
          exact ⟨q, m, hq1, hm, rfl, by assumption⟩
  case rest =>
    clear r1 rf
    obtain ⟨q, m, hq1, hm, rfl, hA⟩ := hcut
    go_upto_block 2 with fail
    go_cut [3, 4] (fun n mk wx => ∃ (q : Nat) (b : Bool), p + 2 ≤ q ∧ mk = .bool b ∧ R.At w0 wx q o)
    case first =>
      go_wp2_with fail
      go_loopg [3, 4] (R.t.length - q) (fun k n mk wr => ∃ (q m : Nat) (b : Bool), p + 2 ≤ q ∧ m ≤ 6 ∧ n = .int .i64 m ∧ mk = .bool b ∧ k = R.t.length - q ∧ R.At w0 wr q o)
      case atStart => exact ⟨q, m, false, by omega, by omega, rfl, rfl, rfl, hA⟩
      case round =>
        clear hA hm hq1
        obtain ⟨q, m, b, hq1, hm, rfl, rfl, hk, hA⟩ := hrel
        by_cases h6 : m < 6
        · cases h63 : (byte R.t q == 63) with
          | true =>
            have hlq := lt_of_byte (t := R.t) (p := q) (by rw [beq_iff_eq.1 h63]; decide)
            go_wp2_with (first | (go_at_call 104; ((with_reducible refine ((rpeek0 R w0 _ _ _ (by first | exact Rx.At.inc1 (by assumption) (by omega) | exact Rx.At.inc2 (by assumption) (by omega) | exact Rx.At.set2 (by assumption) _ | assumption))).mono ?_); (rintro e w' ⟨rfl, hA⟩); (have r0 := Rx.At.c0 hA; have r1 := Rx.At.c1 hA; have r2 := Rx.At.c2 hA; have rf := Rx.At.f hA))))
            go_roundg (R.t.length - (q + 1))
            case measure => omega
            case rel => exact ⟨q + 1, m + 1, true, by omega, by omega, by go_num, rfl, rfl, Rx.At.inc1 (by assumption) (by omega)⟩
          | false =>
            go_wp2_with (first | (go_at_call 104; ((with_reducible refine ((rpeek0 R w0 _ _ _ (by first | exact Rx.At.inc1 (by assumption) (by omega) | exact Rx.At.inc2 (by assumption) (by omega) | exact Rx.At.set2 (by assumption) _ | assumption))).mono ?_); (rintro e w' ⟨rfl, hA⟩); (have r0 := Rx.At.c0 hA; have r1 := Rx.At.c1 hA; have r2 := Rx.At.c2 hA; have rf := Rx.At.f hA))))
            go_meet
            exact ⟨q, b, hq1, rfl, by assumption⟩
        · go_wp2_with (first | (go_at_call 104; ((with_reducible refine ((rpeek0 R w0 _ _ _ (by first | exact Rx.At.inc1 (by assumption) (by omega) | exact Rx.At.inc2 (by assumption) (by omega) | exact Rx.At.set2 (by assumption) _ | assumption))).mono ?_); (rintro e w' ⟨rfl, hA⟩); (have r0 := Rx.At.c0 hA; have r1 := Rx.At.c1 hA; have r2 := Rx.At.c2 hA; have rf := Rx.At.f hA))))
          go_meet
          exact ⟨q, b, hq1, rfl, by assumption⟩
    case rest =>
    clear hA hm hq1
    obtain ⟨q, b, hq1, rfl, hA⟩ := hcut
    go_upto_region 11 with fail
    go_cut [68] (fun s wx => ∃ c : Bool, s = .bool c ∧ R.At w0 wx q o)
    case first =>
      cases b
      all_goals
        go_wp2_with (first | (go_at_call 104; ((with_reducible refine ((rpeek0 R w0 _ _ _ (by first | exact Rx.At.inc1 (by assumption) (by omega) | exact Rx.At.inc2 (by assumption) (by omega) | exact Rx.At.set2 (by assumption) _ | assumption))).mono ?_); (rintro e w' ⟨rfl, hA⟩); (have r0 := Rx.At.c0 hA; have r1 := Rx.At.c1 hA; have r2 := Rx.At.c2 hA; have rf := Rx.At.f hA))) | (go_at_call 104; ((with_reducible refine ((rpeek1 R w0 _ _ _ (by first | exact Rx.At.inc1 (by assumption) (by omega) | exact Rx.At.inc2 (by assumption) (by omega) | exact Rx.At.set2 (by assumption) _ | assumption))).mono ?_); (rintro e w' ⟨rfl, hA⟩); (have r0 := Rx.At.c0 hA; have r1 := Rx.At.c1 hA; have r2 := Rx.At.c2 hA; have rf := Rx.At.f hA))) | (go_at_call 111; ((with_reducible refine ((hex_any _ _ (byte_lo _ _) (byte_hi _ _))).mono ?_); (rintro e w' ⟨rfl, rfl⟩))))
        all_goals (go_meet; exact ⟨_, rfl, by assumption⟩)
    case rest =>
    clear hA
    obtain ⟨c, rfl, hA⟩ := hcut
    have r2 := hA.c2
    have rf := hA.f
    go_upto_if 68 with fail
    go_cut [] (fun wx => ∃ o' : Bool, (o = true → o' = true) ∧ R.At w0 wx q o')
    case first =>
      cases c with
      | true =>
        go_wp2_with fail
        go_meet
        exact ⟨true, fun _ => rfl, hA.set2 true⟩
      | false =>
        go_wp2_with fail
        go_meet
        exact ⟨o, id, hA⟩
    case rest =>
    clear hA r2 rf
    obtain ⟨o', ho', hA⟩ := hcut
    have HO := Lib.hid ho'
    clear ho'
    go_upto_region 13 with fail
    go_cut [84] (fun s wx => ∃ c : Bool, s = .bool c ∧ (c = true → q < R.t.length) ∧ R.At w0 wx q o')
    case first =>
      cases b with
      | true =>
        go_wp2_with fail
        go_meet
        exact ⟨false, rfl, fun h => (by cases h), hA⟩
      | false =>
        cases h45 : (byte R.t q == 45) with
        | false =>
          go_wp2_with (first | (go_at_call 104; ((with_reducible refine ((rpeek0 R w0 _ _ _ (by first | exact Rx.At.inc1 (by assumption) (by omega) | exact Rx.At.inc2 (by assumption) (by omega) | exact Rx.At.set2 (by assumption) _ | assumption))).mono ?_); (rintro e w' ⟨rfl, hA⟩); (have r0 := Rx.At.c0 hA; have r1 := Rx.At.c1 hA; have r2 := Rx.At.c2 hA; have rf := Rx.At.f hA))) | (go_at_call 104; ((with_reducible refine ((rpeek1 R w0 _ _ _ (by first | exact Rx.At.inc1 (by assumption) (by omega) | exact Rx.At.inc2 (by assumption) (by omega) | exact Rx.At.set2 (by assumption) _ | assumption))).mono ?_); (rintro e w' ⟨rfl, hA⟩); (have r0 := Rx.At.c0 hA; have r1 := Rx.At.c1 hA; have r2 := Rx.At.c2 hA; have rf := Rx.At.f hA))) | (go_at_call 111; ((with_reducible refine ((hex_any _ _ (byte_lo _ _) (byte_hi _ _))).mono ?_); (rintro e w' ⟨rfl, rfl⟩))))
          go_meet
          exact ⟨false, rfl, fun h => (by cases h), by assumption⟩
        | true =>
          have HL := Lib.hid (lt_of_byte (t := R.t) (p := q) (by rw [beq_iff_eq.1 h45]; decide))
          go_wp2_with (first | (go_at_call 104; ((with_reducible refine ((rpeek0 R w0 _ _ _ (by first | exact Rx.At.inc1 (by assumption) (by omega) | exact Rx.At.inc2 (by assumption) (by omega) | exact Rx.At.set2 (by assumption) _ | assumption))).mono ?_); (rintro e w' ⟨rfl, hA⟩); (have r0 := Rx.At.c0 hA; have r1 := Rx.At.c1 hA; have r2 := Rx.At.c2 hA; have rf := Rx.At.f hA))) | (go_at_call 104; ((with_reducible refine ((rpeek1 R w0 _ _ _ (by first | exact Rx.At.inc1 (by assumption) (by omega) | exact Rx.At.inc2 (by assumption) (by omega) | exact Rx.At.set2 (by assumption) _ | assumption))).mono ?_); (rintro e w' ⟨rfl, hA⟩); (have r0 := Rx.At.c0 hA; have r1 := Rx.At.c1 hA; have r2 := Rx.At.c2 hA; have rf := Rx.At.f hA))) | (go_at_call 111; ((with_reducible refine ((hex_any _ _ (byte_lo _ _) (byte_hi _ _))).mono ?_); (rintro e w' ⟨rfl, rfl⟩))))
          all_goals (go_meet; exact ⟨_, rfl, fun _ => HL.out, by assumption⟩)
    case rest =>
    clear hA
    obtain ⟨c, rfl, hcl, hA⟩ := hcut
    have HCL := Lib.hid hcl
    have r0 := hA.c0
    have r1 := hA.c1
    have r2 := hA.c2
    have rf := hA.f
    clear hcl
    go_upto_if 84 with fail
    go_cut [] (fun wx => ∃ (q' : Nat) (o2 : Bool), p + 2 ≤ q' ∧ (o = true → o2 = true) ∧ R.At w0 wx q' o2)
    case first =>
      cases c with
      | false =>
        go_wp2_with fail
        go_meet
        exact ⟨q, o', hq1, HO.out, hA⟩
      | true =>
        have hlq := HCL.out rfl
        have hA1 := hA.inc1 hlq
        go_wp2_with fail
        go_loopg [5] (R.t.length - (q + 1)) (fun k n wr => ∃ (q m : Nat), p + 2 ≤ q ∧ m ≤ 6 ∧ n = .int .i64 m ∧ k = R.t.length - q ∧ R.At w0 wr q o')
        case atStart => exact ⟨q + 1, 0, by omega, by omega, rfl, rfl, hA1⟩
        case round =>
          clear hA hA1 r0 r1 r2 rf hlq hq1
          obtain ⟨q, m, hq1, hm, rfl, hk, hA⟩ := hrel
          by_cases hcnd : m < 6 ∧ isHx (byte R.t q) = true
          · obtain ⟨hm6, hxq⟩ := hcnd
            have hv : decide (0 ≤ hexV (byte R.t q)) = true := by rw [hexV_pos _ (byte_lo _ _), hxq]
            have hlq := lt_of_class (f := isHx) rfl hxq
            go_wp2_with (first | (go_at_call 104; ((with_reducible refine ((rpeek0 R w0 _ _ _ (by first | exact Rx.At.inc1 (by assumption) (by omega) | exact Rx.At.inc2 (by assumption) (by omega) | exact Rx.At.set2 (by assumption) _ | assumption))).mono ?_); (rintro e w' ⟨rfl, hA⟩); (have r0 := Rx.At.c0 hA; have r1 := Rx.At.c1 hA; have r2 := Rx.At.c2 hA; have rf := Rx.At.f hA))) | (go_at_call 111; ((with_reducible refine ((hex_any _ _ (byte_lo _ _) (byte_hi _ _))).mono ?_); (rintro e w' ⟨rfl, rfl⟩))))
            go_roundg (R.t.length - (q + 1))
            case measure => omega
            case rel => exact ⟨q + 1, m + 1, by omega, by omega, by go_num, rfl, Rx.At.inc1 (by assumption) (by omega)⟩
          · cases hxq : isHx (byte R.t q) with
            | false =>
              have hv : decide (0 ≤ hexV (byte R.t q)) = false := by rw [hexV_pos _ (byte_lo _ _), hxq]
              by_cases h6 : m < 6
              all_goals
                go_wp2_with (first | (go_at_call 104; ((with_reducible refine ((rpeek0 R w0 _ _ _ (by first | exact Rx.At.inc1 (by assumption) (by omega) | exact Rx.At.inc2 (by assumption) (by omega) | exact Rx.At.set2 (by assumption) _ | assumption))).mono ?_); (rintro e w' ⟨rfl, hA⟩); (have r0 := Rx.At.c0 hA; have r1 := Rx.At.c1 hA; have r2 := Rx.At.c2 hA; have rf := Rx.At.f hA))) | (go_at_call 111; ((with_reducible refine ((hex_any _ _ (byte_lo _ _) (byte_hi _ _))).mono ?_); (rintro e w' ⟨rfl, rfl⟩))))
                go_meet
                exact ⟨q, o', hq1, HO.out, by assumption⟩
            | true =>
              have hv : decide (0 ≤ hexV (byte R.t q)) = true := by rw [hexV_pos _ (byte_lo _ _), hxq]
              have h6 : ¬ m < 6 := fun h6 => hcnd ⟨h6, hxq⟩
              clear hcnd
              go_wp2_with (first | (go_at_call 104; ((with_reducible refine ((rpeek0 R w0 _ _ _ (by first | exact Rx.At.inc1 (by assumption) (by omega) | exact Rx.At.inc2 (by assumption) (by omega) | exact Rx.At.set2 (by assumption) _ | assumption))).mono ?_); (rintro e w' ⟨rfl, hA⟩); (have r0 := Rx.At.c0 hA; have r1 := Rx.At.c1 hA; have r2 := Rx.At.c2 hA; have rf := Rx.At.f hA))) | (go_at_call 111; ((with_reducible refine ((hex_any _ _ (byte_lo _ _) (byte_hi _ _))).mono ?_); (rintro e w' ⟨rfl, rfl⟩))))
              go_meet
              exact ⟨q, true, hq1, fun _ => rfl, Rx.At.set2 (by assumption) true⟩
    case rest =>
    clear hA r0 r1 r2 rf
    obtain ⟨q', o2, hq2, ho2, hA⟩ := hcut
    have HO2 := Lib.hid ho2
    clear ho2
    go_wp2_with fail
    go_ret
    exact ⟨13, q', o2, rfl, hA, by omega, HO2.out, by omega, rfl⟩
end
end Go.Proofs.YtlglijnaeaonpaaGreatDoor.Css
