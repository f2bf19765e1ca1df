/- The reference's reader: the next token. -/
import Derived.Test.YtlglijnaeaonpaaGreatDoorNm
import Derived.Test.YtlglijnaeaonpaaGreatDoorMl
set_option linter.all false
/- The reference's reader: the next token. -/
namespace Go.Proofs.YtlglijnaeaonpaaGreatDoor.Css
open Go.RowKit

/-- A number's kind, from its first byte. -/
theorem NumT.tk {t : List UInt8} {p : Nat} {tt : Int} {q : Nat} (h : NumT t p tt q) (hb : numB t p = true) : Tk t p tt q := by
  obtain ⟨p3, hf⟩ := numB_some hb
  cases hd : isDg (byte t p) with
  | true => exact .numD tt q hd h
  | false =>
    by_cases h43 : byte t p = 43
    · exact .numS tt q (.inr h43) h
    · by_cases h45 : byte t p = 45
      · have hs : signEnd t p = p + 1 := by rw [signEnd, h45]; rfl
        rw [hs] at hf
        have hx : isDg (byte t (p + 1)) = true ∨ byte t (p + 1) = 46 := by
          unfold fracEnd at hf
          cases hd1 : isDg (byte t (p + 1)) with
          | true => exact .inl rfl
          | false =>
            rw [hd1, if_neg Bool.false_ne_true] at hf
            split at hf
            · rename_i hx; simp only [Bool.and_eq_true, beq_iff_eq] at hx; exact .inr hx.1
            · cases hf
        refine .hyN tt q h45 ?_ ?_ h
        · rw [beq_eq_false_iff_ne]
          rcases hx with hx | hx
          · have := isDg_yes hx; omega
          · omega
        · rcases hx with hx | hx
          · have := isDg_yes hx; simp [isSt]; omega
          · rw [hx]; decide
      · have hs : signEnd t p = p := by rw [signEnd, beq_eq_false_iff_ne.2 h43, beq_eq_false_iff_ne.2 h45]; rfl
        rw [hs] at hf
        unfold fracEnd at hf
        rw [hd, if_neg Bool.false_ne_true] at hf
        split at hf
        · rename_i hx; simp only [Bool.and_eq_true, beq_iff_eq] at hx; exact .numS tt q (.inl hx.1) h
        · cases hf
/-- A range of characters begins at a place. -/
def codB (t : List UInt8) (p : Nat) : Bool := (byte t p == 117 || byte t p == 85) && byte t (p + 1) == 43 && (isHx (byte t (p + 2)) || byte t (p + 2) == 63)

/-- A token, told exactly by the road on which it was read. -/
def TokD (R : Rx) (p : Nat) (o : Bool) (tt : Int) (q : Nat) (o' : Bool) : Prop :=
  ((isWS (byte R.t p) = true ∨ (byte R.t p = 47 ∧ byte R.t (p + 1) = 42) ∨ codB R.t p = true ∨ (byte R.t p = 45 ∧ byte R.t (p + 1) = 45)) ∧ tt ≠ 9) ∨
  ((byte R.t p = 34 ∨ byte R.t p = 39) ∧ QuoK R p o tt q o') ∨ (numB R.t p = true ∧ NumK R p o tt q o') ∨ (idB R.t p = true ∧ IdK R p (o || idO R.t p) tt q o') ∨
  (¬ (byte R.t p = 34 ∨ byte R.t p = 39) ∧ numB R.t p = false ∧ idB R.t p = false ∧ (isWS (byte R.t p) = false ∧ (byte R.t p == 47 && byte R.t (p + 1) == 42) = false ∧ codB R.t p = false) ∧ SgnD R.t p (o || idO R.t p) tt q o')
/-- What is known of a token that has been read. -/
def TokB (R : Rx) (p : Nat) (o : Bool) (tt : Int) (q : Nat) (o' : Bool) : Prop := TokK R p tt q o' ∧ TokD R p o tt q o'

section
variable (R : Rx) (w0 w : World) (p : Nat) (o : Bool) (h : R.At w0 w p o)
include h
set_option maxRecDepth 100000 in
set_option maxHeartbeats 4000000 in
theorem token_any (hlt : p < R.t.length) : Calls Tryz.prog 68 #[.pointer (some ⟨R.g, 0, none⟩)] w (RTok R w0 p o (TokB R p o)) := by
  have hbig := h.big
  have hcp := h.cp
  cases hws : isWS (byte R.t p) with
  | true =>
    have HW := Lib.hid hws
    have HB := fun (w' : World) (hA : R.At w0 w' p o) => blanks_any R w0 w' p o hA
    have hst := spanEnd_step (f := isWS) rfl hws
    have hge := spanEnd_ge R.t isWS (p + 1)
    rw [hst] at HB
    clear hst
    go_enter Tryz.func68, Tryz.ntmps68
    go_wp2_with (first | (go_at_call 104; ((with_reducible refine ((rpeek0 R w0 _ _ _ (by first | exact Rx.At.inc1 (by assumption) (by omega) | exact Rx.At.inc2 (by assumption) (by omega) | exact Rx.At.set2 (by assumption) _ | assumption))).mono ?_); (rintro e w' ⟨rfl, hA⟩); (have r0 := Rx.At.c0 hA; have r1 := Rx.At.c1 hA; have r2 := Rx.At.c2 hA; have rf := Rx.At.f hA))) | (go_at_call 104; ((with_reducible refine ((rpeek1 R w0 _ _ _ (by first | exact Rx.At.inc1 (by assumption) (by omega) | exact Rx.At.inc2 (by assumption) (by omega) | exact Rx.At.set2 (by assumption) _ | assumption))).mono ?_); (rintro e w' ⟨rfl, hA⟩); (have r0 := Rx.At.c0 hA; have r1 := Rx.At.c1 hA; have r2 := Rx.At.c2 hA; have rf := Rx.At.f hA))) | (go_at_call 105; ((with_reducible refine ((blank_any _ _ (byte_lo _ _) (byte_hi _ _))).mono ?_); (rintro e w' ⟨rfl, rfl⟩))) | (go_at_call 106; ((with_reducible refine (HB _ (by assumption)).mono ?_); (rintro e w' ⟨rfl, hA⟩))))
    go_ret
    exact ⟨20, _, o, rfl, by assumption, by omega, id, by omega, fun _ _ _ _ => .ws HW.out, .inl ⟨.inl HW.out, by decide⟩⟩
  | false =>
  have HWSF := Lib.hid hws
  by_cases hqu : byte R.t p = 34 ∨ byte R.t p = 39
  · have HQ := Lib.hid hqu
    have HB := fun (w' : World) (hA : R.At w0 w' p o) => quoted_any R w0 w' p o hA HQ.out
    cases q1 : (byte R.t p == 34) with
    | true =>
      clear hqu
      go_enter Tryz.func68, Tryz.ntmps68
      go_wp2_with (first | (go_at_call 104; ((with_reducible refine ((rpeek0 R w0 _ _ _ (by first | exact Rx.At.inc1 (by assumption) (by omega) | exact Rx.At.inc2 (by assumption) (by omega) | exact Rx.At.set2 (by assumption) _ | assumption))).mono ?_); (rintro e w' ⟨rfl, hA⟩); (have r0 := Rx.At.c0 hA; have r1 := Rx.At.c1 hA; have r2 := Rx.At.c2 hA; have rf := Rx.At.f hA))) | (go_at_call 104; ((with_reducible refine ((rpeek1 R w0 _ _ _ (by first | exact Rx.At.inc1 (by assumption) (by omega) | exact Rx.At.inc2 (by assumption) (by omega) | exact Rx.At.set2 (by assumption) _ | assumption))).mono ?_); (rintro e w' ⟨rfl, hA⟩); (have r0 := Rx.At.c0 hA; have r1 := Rx.At.c1 hA; have r2 := Rx.At.c2 hA; have rf := Rx.At.f hA))) | (go_at_call 105; ((with_reducible refine ((blank_any _ _ (byte_lo _ _) (byte_hi _ _))).mono ?_); (rintro e w' ⟨rfl, rfl⟩))) | (go_at_call 107; ((with_reducible refine (HB _ (by assumption)).mono ?_); (rintro e w' ⟨tt, q, o2, rfl, hA, hq, ho2, htt, hK⟩))))
      go_ret
      exact ⟨tt, q, o2, rfl, hA, hq, ho2, htt, fun h2 hn hz _ => (hK.1 h2 hn hz).2, .inr (.inl ⟨HQ.out, hK⟩)⟩
    | false =>
      have q2 : (byte R.t p == 39) = true := by
        rcases hqu with e | e
        · rw [e] at q1; cases q1
        · rw [e]; rfl
      clear hqu
      go_enter Tryz.func68, Tryz.ntmps68
      go_wp2_with (first | (go_at_call 104; ((with_reducible refine ((rpeek0 R w0 _ _ _ (by first | exact Rx.At.inc1 (by assumption) (by omega) | exact Rx.At.inc2 (by assumption) (by omega) | exact Rx.At.set2 (by assumption) _ | assumption))).mono ?_); (rintro e w' ⟨rfl, hA⟩); (have r0 := Rx.At.c0 hA; have r1 := Rx.At.c1 hA; have r2 := Rx.At.c2 hA; have rf := Rx.At.f hA))) | (go_at_call 104; ((with_reducible refine ((rpeek1 R w0 _ _ _ (by first | exact Rx.At.inc1 (by assumption) (by omega) | exact Rx.At.inc2 (by assumption) (by omega) | exact Rx.At.set2 (by assumption) _ | assumption))).mono ?_); (rintro e w' ⟨rfl, hA⟩); (have r0 := Rx.At.c0 hA; have r1 := Rx.At.c1 hA; have r2 := Rx.At.c2 hA; have rf := Rx.At.f hA))) | (go_at_call 105; ((with_reducible refine ((blank_any _ _ (byte_lo _ _) (byte_hi _ _))).mono ?_); (rintro e w' ⟨rfl, rfl⟩))) | (go_at_call 107; ((with_reducible refine (HB _ (by assumption)).mono ?_); (rintro e w' ⟨tt, q, o2, rfl, hA, hq, ho2, htt, hK⟩))))
      go_ret
      exact ⟨tt, q, o2, rfl, hA, hq, ho2, htt, fun h2 hn hz _ => (hK.1 h2 hn hz).2, .inr (.inl ⟨HQ.out, hK⟩)⟩
  · have HNQ := Lib.hid hqu
    have q1 : (byte R.t p == 34) = false := beq_eq_false_iff_ne.2 fun e => hqu (.inl e)
    have q2 : (byte R.t p == 39) = false := beq_eq_false_iff_ne.2 fun e => hqu (.inr e)
    clear hqu
    by_cases hco : byte R.t p = 47 ∧ byte R.t (p + 1) = 42
    · have hc1 := beq_iff_eq.2 hco.1
      have hc2 := beq_iff_eq.2 hco.2
      have hlt2 := lt_of_byte (t := R.t) (p := p + 1) (by rw [hco.2]; decide)
      have HCO := Lib.hid hco
      clear hco
      have HB := fun (w' : World) (hA : R.At w0 w' p o) => comment_any R w0 w' p o hA (by omega)
      go_enter Tryz.func68, Tryz.ntmps68
      go_wp2_with (first | (go_at_call 104; ((with_reducible refine ((rpeek0 R w0 _ _ _ (by first | exact Rx.At.inc1 (by assumption) (by omega) | exact Rx.At.inc2 (by assumption) (by omega) | exact Rx.At.set2 (by assumption) _ | assumption))).mono ?_); (rintro e w' ⟨rfl, hA⟩); (have r0 := Rx.At.c0 hA; have r1 := Rx.At.c1 hA; have r2 := Rx.At.c2 hA; have rf := Rx.At.f hA))) | (go_at_call 104; ((with_reducible refine ((rpeek1 R w0 _ _ _ (by first | exact Rx.At.inc1 (by assumption) (by omega) | exact Rx.At.inc2 (by assumption) (by omega) | exact Rx.At.set2 (by assumption) _ | assumption))).mono ?_); (rintro e w' ⟨rfl, hA⟩); (have r0 := Rx.At.c0 hA; have r1 := Rx.At.c1 hA; have r2 := Rx.At.c2 hA; have rf := Rx.At.f hA))) | (go_at_call 105; ((with_reducible refine ((blank_any _ _ (byte_lo _ _) (byte_hi _ _))).mono ?_); (rintro e w' ⟨rfl, rfl⟩))) | (go_at_call 108; ((with_reducible refine (HB _ (by assumption)).mono ?_); (rintro e w' ⟨tt, q, o2, rfl, hA, hq, ho2, htt, hK⟩))))
      go_ret
      exact ⟨32, q, o2, rfl, hA, hq, ho2, by omega, fun _ _ _ ha => absurd rfl ha.1.2.2.2.2.2, .inl ⟨.inr (.inl HCO.out), by decide⟩⟩
    · have hcb : (byte R.t p == 47 && byte R.t (p + 1) == 42) = false := by
        rw [Bool.eq_false_iff]; intro hx; simp only [Bool.and_eq_true, beq_iff_eq] at hx; exact hco hx
      obtain ⟨nx, hnx⟩ : ∃ nx, nx = byte R.t (p + 1) := ⟨_, rfl⟩
      have HNX := Lib.hid hnx
      have HCB := Lib.hid hcb
      clear hco hcb hnx
      go_enter Tryz.func68, Tryz.ntmps68
      go_upto_region 7 with (first | (go_at_call 104; ((with_reducible refine ((rpeek0 R w0 _ _ _ (by first | exact Rx.At.inc1 (by assumption) (by omega) | exact Rx.At.inc2 (by assumption) (by omega) | exact Rx.At.set2 (by assumption) _ | assumption))).mono ?_); (rintro e w' ⟨rfl, hA⟩); (have r0 := Rx.At.c0 hA; have r1 := Rx.At.c1 hA; have r2 := Rx.At.c2 hA; have rf := Rx.At.f hA))) | (go_at_call 104; ((with_reducible refine ((rpeek1 R w0 _ _ _ (by first | exact Rx.At.inc1 (by assumption) (by omega) | exact Rx.At.inc2 (by assumption) (by omega) | exact Rx.At.set2 (by assumption) _ | assumption))).mono ?_); (rintro e w' ⟨rfl, hA⟩); (have r0 := Rx.At.c0 hA; have r1 := Rx.At.c1 hA; have r2 := Rx.At.c2 hA; have rf := Rx.At.f hA))) | (go_at_call 105; ((with_reducible refine ((blank_any _ _ (byte_lo _ _) (byte_hi _ _))).mono ?_); (rintro e w' ⟨rfl, rfl⟩))))
      go_cut [23] (fun s wx => s = .bool false ∧ R.At w0 wx p o)
      case first =>
        cases h47 : (byte R.t p == 47) with
        | false =>
          go_wp2_with fail
          go_meet
          exact ⟨rfl, by assumption⟩
        | true =>
          have h42 : (byte R.t (p + 1) == 42) = false := by have := HCB.out; rw [h47] at this; exact this
          go_wp2_with fail
          go_meet
          exact ⟨rfl, by assumption⟩
      case rest =>
      clear hA r0 r1 r2 rf
      obtain ⟨rfl, hA⟩ := hcut
      cases hnb : numB R.t p with
      | true =>
        have HN := Lib.hid hnb
        have HB := fun (w' : World) (hA : R.At w0 w' p o) => rnumeric_any R w0 w' p o hA HN.out
        go_wp2_with (first | (go_at_call 109; ((with_reducible refine ((numbers_any R w0 _ _ _ (by first | exact Rx.At.inc1 (by assumption) (by omega) | exact Rx.At.inc2 (by assumption) (by omega) | exact Rx.At.set2 (by assumption) _ | assumption))).mono ?_); (rintro e w' ⟨rfl, hA⟩); (have r0 := Rx.At.c0 hA; have r1 := Rx.At.c1 hA; have r2 := Rx.At.c2 hA; have rf := Rx.At.f hA))) | (go_at_call 110; ((with_reducible refine (HB _ (by assumption)).mono ?_); (rintro e w' ⟨tt, q, o2, rfl, hA, hq, ho2, htt, hK⟩))))
        go_ret
        exact ⟨tt, q, o2, rfl, hA, hq, ho2, htt, fun h2 hn hz _ => (hK.1 h2 hn).tk HN.out, .inr (.inr (.inl ⟨HN.out, hK⟩))⟩
      | false =>
      have HN := Lib.hid hnb
      go_upto_region 11 with (first | (go_at_call 109; ((with_reducible refine ((numbers_any R w0 _ _ _ (by first | exact Rx.At.inc1 (by assumption) (by omega) | exact Rx.At.inc2 (by assumption) (by omega) | exact Rx.At.set2 (by assumption) _ | assumption))).mono ?_); (rintro e w' ⟨rfl, hA⟩); (have r0 := Rx.At.c0 hA; have r1 := Rx.At.c1 hA; have r2 := Rx.At.c2 hA; have rf := Rx.At.f hA))))
      go_cut [37] (fun s wx => s = .bool (codB R.t p) ∧ R.At w0 wx p o)
      case first =>
        cases hu : (byte R.t p == 117 || byte R.t p == 85) with
        | false =>
          have H := Lib.hid (show codB R.t p = false from by rw [codB, hu]; rfl)
          have hu2 := Bool.or_eq_false_iff.1 hu
          obtain ⟨u1, u2⟩ := hu2
          clear hu
          go_wp2_with fail
          go_meet
          exact ⟨congrArg Value.bool H.out.symm, by assumption⟩
        | true =>
          have HU := Lib.hid hu
          have H2 := Lib.hid (show (byte R.t p == 117) = false → (byte R.t p == 85) = true from fun e => by rw [e, Bool.false_or] at hu; exact hu)
          clear hu
          cases h43 : (byte R.t (p + 1) == 43) with
          | false =>
            have H := Lib.hid (show codB R.t p = false from by rw [codB, HU.out, h43]; rfl)
            cases u1 : (byte R.t p == 117) <;> (first | have u2 := H2.out u1 | skip)
            all_goals
              go_wp2_with fail
              go_meet
              exact ⟨congrArg Value.bool H.out.symm, by assumption⟩
          | true =>
            cases hx : isHx (byte R.t (p + 2)) with
            | true =>
              have H := Lib.hid (show codB R.t p = true from by rw [codB, HU.out, h43, hx]; rfl)
              have hv : decide (0 ≤ hexV (byte R.t (p + 2))) = true := by rw [hexV_pos _ (byte_lo _ _), hx]
              cases u1 : (byte R.t p == 117) <;> (first | have u2 := H2.out u1 | skip)
              all_goals
                go_wp2_with (first | (go_at_call 104; ((with_reducible refine ((rpeek2 R w0 _ _ _ (by first | exact Rx.At.inc1 (by assumption) (by omega) | exact Rx.At.inc2 (by assumption) (by omega) | exact Rx.At.set2 (by assumption) _ | assumption))).mono ?_); (rintro e w' ⟨rfl, hA⟩); (have r0 := Rx.At.c0 hA; have r1 := Rx.At.c1 hA; have r2 := Rx.At.c2 hA; have rf := Rx.At.f hA))) | (go_at_call 111; ((with_reducible refine ((hex_any _ _ (byte_lo _ _) (byte_hi _ _))).mono ?_); (rintro e w' ⟨rfl, rfl⟩))))
                go_meet
                exact ⟨congrArg Value.bool H.out.symm, by assumption⟩
            | false =>
              have H := Lib.hid (show codB R.t p = (byte R.t (p + 2) == 63) from by rw [codB, HU.out, h43, hx]; rfl)
              have hv : decide (0 ≤ hexV (byte R.t (p + 2))) = false := by rw [hexV_pos _ (byte_lo _ _), hx]
              cases u1 : (byte R.t p == 117) <;> (first | have u2 := H2.out u1 | skip)
              all_goals
                go_wp2_with (first | (go_at_call 104; ((with_reducible refine ((rpeek2 R w0 _ _ _ (by first | exact Rx.At.inc1 (by assumption) (by omega) | exact Rx.At.inc2 (by assumption) (by omega) | exact Rx.At.set2 (by assumption) _ | assumption))).mono ?_); (rintro e w' ⟨rfl, hA⟩); (have r0 := Rx.At.c0 hA; have r1 := Rx.At.c1 hA; have r2 := Rx.At.c2 hA; have rf := Rx.At.f hA))) | (go_at_call 111; ((with_reducible refine ((hex_any _ _ (byte_lo _ _) (byte_hi _ _))).mono ?_); (rintro e w' ⟨rfl, rfl⟩))))
                go_meet
                exact ⟨congrArg Value.bool H.out.symm, by assumption⟩
      case rest =>
      clear hA
      obtain ⟨rfl, hA⟩ := hcut
      cases hcb : codB R.t p with
      | true =>
        have hlt2 : p + 1 < R.t.length := by
          simp only [codB, Bool.and_eq_true, beq_iff_eq] at hcb
          exact lt_of_byte (by rw [hcb.1.2]; decide)
        have HCB2 := Lib.hid hcb
        have HB := fun (w' : World) (hA : R.At w0 w' p o) => codes_any R w0 w' p o hA (by omega)
        go_wp2_with (first | (go_at_call 112; ((with_reducible refine (HB _ (by assumption)).mono ?_); (rintro e w' ⟨tt, q, o2, rfl, hA, hq, ho2, htt, hK⟩))))
        go_ret
        exact ⟨13, q, o2, rfl, hA, hq, ho2, by omega, fun _ _ _ ha => absurd rfl ha.1.2.1, .inl ⟨.inr (.inr (.inl HCB2.out)), by decide⟩⟩
      | false =>
      have HC := Lib.hid hcb
      go_upto_region 13 with fail
      go_cut [61] (fun s wx => ∃ c : Bool, s = .bool c ∧ (c = true → p + 2 < R.t.length ∧ byte R.t p = 45 ∧ byte R.t (p + 1) = 45) ∧ R.At w0 wx p o)
      case first =>
        cases h45 : (byte R.t p == 45) with
        | false =>
          go_wp2_with fail
          go_meet
          exact ⟨false, rfl, fun h => (by cases h), by assumption⟩
        | true =>
          cases h46 : (byte R.t (p + 1) == 45) with
          | false =>
            go_wp2_with fail
            go_meet
            exact ⟨false, rfl, fun h => (by cases h), by assumption⟩
          | true =>
            cases h62 : (byte R.t (p + 2) == 62) with
            | false =>
              go_wp2_with (first | (go_at_call 104; ((with_reducible refine ((rpeek2 R w0 _ _ _ (by first | exact Rx.At.inc1 (by assumption) (by omega) | exact Rx.At.inc2 (by assumption) (by omega) | exact Rx.At.set2 (by assumption) _ | assumption))).mono ?_); (rintro e w' ⟨rfl, hA⟩); (have r0 := Rx.At.c0 hA; have r1 := Rx.At.c1 hA; have r2 := Rx.At.c2 hA; have rf := Rx.At.f hA))))
              go_meet
              exact ⟨false, rfl, fun h => (by cases h), by assumption⟩
            | true =>
              have HL := Lib.hid (show p + 2 < R.t.length ∧ byte R.t p = 45 ∧ byte R.t (p + 1) = 45 from ⟨lt_of_byte (t := R.t) (p := p + 2) (by rw [beq_iff_eq.1 h62]; decide), beq_iff_eq.1 h45, beq_iff_eq.1 h46⟩)
              go_wp2_with (first | (go_at_call 104; ((with_reducible refine ((rpeek2 R w0 _ _ _ (by first | exact Rx.At.inc1 (by assumption) (by omega) | exact Rx.At.inc2 (by assumption) (by omega) | exact Rx.At.set2 (by assumption) _ | assumption))).mono ?_); (rintro e w' ⟨rfl, hA⟩); (have r0 := Rx.At.c0 hA; have r1 := Rx.At.c1 hA; have r2 := Rx.At.c2 hA; have rf := Rx.At.f hA))))
              go_meet
              exact ⟨true, rfl, fun _ => HL.out, by assumption⟩
      case rest =>
      clear hA
      obtain ⟨c, rfl, hcl, hA⟩ := hcut
      cases c with
      | true =>
        have HHY := Lib.hid (hcl rfl).2
        have hl2 := (hcl rfl).1
        have r1 := hA.c1
        have rf := hA.f
        have hA3 := hA.inc3 hl2
        clear hcl
        go_wp2_with fail
        go_ret
        exact ⟨22, p + 3, o, rfl, hA3, by omega, id, by omega, fun _ _ _ ha => absurd rfl ha.1.2.2.2.2.1, .inl ⟨.inr (.inr (.inr HHY.out)), by decide⟩⟩
      | false =>
      clear hcl
      cases hid : idB R.t p with
      | true =>
        have HI := Lib.hid hid
        have HB := fun (w' : World) (o' : Bool) (hA : R.At w0 w' p o') => identLike_any R w0 w' p o' hA HI.out
        go_wp2_with (first | (go_at_call 113; ((with_reducible refine ((ident0 R w0 _ _ _ (by first | exact Rx.At.inc1 (by assumption) (by omega) | exact Rx.At.inc2 (by assumption) (by omega) | exact Rx.At.set2 (by assumption) _ | assumption))).mono ?_); (rintro e w' ⟨rfl, hA⟩); (have r0 := Rx.At.c0 hA; have r1 := Rx.At.c1 hA; have r2 := Rx.At.c2 hA; have rf := Rx.At.f hA))) | (go_at_call 114; ((with_reducible refine (HB _ _ (by assumption)).mono ?_); (rintro e w' ⟨tt, q, o2, rfl, hA, hq, ho2, htt, hK⟩))))
        go_ret
        refine ⟨tt, q, o2, rfl, hA, hq, fun ho => ho2 (by rw [ho]; rfl), htt, fun h2 hn hz _ => ?_, .inr (.inr (.inr (.inl ⟨HI.out, hK⟩)))⟩
        have hio : idO R.t p = false := by
          cases hx : idO R.t p with
          | false => rfl
          | true => rw [ho2 (by rw [hx, Bool.or_true])] at h2; cases h2
        obtain ⟨p1, hp1, hs1, he1⟩ := idB_yes hn HI.out hio
        have hil := hK.2 h2 hn hz p1 hs1 he1
        rcases hp1 with ⟨_, rfl⟩ | ⟨a1, a2, rfl⟩
        · by_cases hu : byte R.t p1 = 117 ∨ byte R.t p1 = 85
          · refine .uI tt q hu ?_ hil
            have hcb := HC.out
            have hu' : (byte R.t p1 == 117 || byte R.t p1 == 85) = true := by simpa using hu
            rw [codB, hu', Bool.true_and] at hcb
            rcases Bool.and_eq_false_iff.1 hcb with hcb | hcb
            · exact .inl hcb
            · exact .inr (Bool.or_eq_false_iff.1 hcb)
          · exact .stI tt q hs1 ⟨fun e => hu (.inl e), fun e => hu (.inr e)⟩ hil
        · exact .hyI tt q (beq_iff_eq.1 a1) a2 hil
      | false =>
        have HNI := Lib.hid hid
        have HB := fun (w' : World) (o' : Bool) (hA : R.At w0 w' p o') => sign_any R w0 w' p o' hA hlt HN.out
        go_wp2_with (first | (go_at_call 113; ((with_reducible refine ((ident0 R w0 _ _ _ (by first | exact Rx.At.inc1 (by assumption) (by omega) | exact Rx.At.inc2 (by assumption) (by omega) | exact Rx.At.set2 (by assumption) _ | assumption))).mono ?_); (rintro e w' ⟨rfl, hA⟩); (have r0 := Rx.At.c0 hA; have r1 := Rx.At.c1 hA; have r2 := Rx.At.c2 hA; have rf := Rx.At.f hA))) | (go_at_call 115; ((with_reducible refine (HB _ _ (by assumption)).mono ?_); (rintro e w' ⟨tt, q, o2, rfl, hA, hq, ho2, htt, hK⟩))))
        go_ret
        exact ⟨tt, q, o2, rfl, hA, hq, fun ho => ho2 (by rw [ho]; rfl), htt, hK.1, .inr (.inr (.inr (.inr ⟨HNQ.out, HN.out, HNI.out, ⟨HWSF.out, HCB.out, HC.out⟩, hK.2⟩)))⟩
end
end Go.Proofs.YtlglijnaeaonpaaGreatDoor.Css
/- A token that the lexer knows is the one that the reference reads: plain. -/
namespace Go.Proofs.YtlglijnaeaonpaaGreatDoor.Css
open Go.RowKit

theorem span_is {t : List UInt8} {f : Int → Bool} {p q : Nat} (h0 : f 0 = false) (hp : p ≤ q) (h : ∀ i, p ≤ i → i < q → f (byte t i) = true) (hq : f (byte t q) = false) : spanEnd t f p = q := by
  obtain ⟨k, rfl⟩ : ∃ k, q = p + k := ⟨q - p, by omega⟩
  induction k generalizing p with
  | zero => exact spanEnd_stop hq
  | succ k ih =>
    rw [spanEnd_step h0 (h p (Nat.le_refl _) (by omega))]
    have := ih (p := p + 1) (by omega) (fun i hi hi2 => h i (by omega) (by omega)) (by rw [show p + 1 + k = p + (k + 1) by omega]; exact hq)
    rw [this]; omega
theorem NumT.det {t : List UInt8} {p : Nat} {a c : Int} {b d : Nat} (h : NumT t p a b) (g : NumT t p c d) : a = c ∧ b = d := by
  cases h with
  | pc p3 h1 h2 =>
    cases g with
    | pc p3' g1 g2 => obtain rfl := Option.some.inj (h1.symm.trans g1); exact ⟨rfl, rfl⟩
    | dim p3' p1' g1 g2 _ _ => obtain rfl := Option.some.inj (h1.symm.trans g1); rw [h2] at g2; cases g2
    | num p3' p1' g1 g2 _ _ => obtain rfl := Option.some.inj (h1.symm.trans g1); rw [h2] at g2; cases g2
  | dim p3 p1 h1 h2 h3 h4 =>
    cases g with
    | pc p3' g1 g2 => obtain rfl := Option.some.inj (h1.symm.trans g1); rw [g2] at h2; cases h2
    | dim p3' p1' g1 g2 g3 g4 =>
      obtain rfl := Option.some.inj (h1.symm.trans g1)
      have : p1 = p1' := by
        rcases h3 with ⟨x, rfl⟩ | ⟨x, _, rfl⟩ <;> rcases g3 with ⟨y, rfl⟩ | ⟨y, _, rfl⟩ <;> first | rfl | (rw [x] at y; cases y)
      subst this; exact ⟨rfl, rfl⟩
    | num p3' p1' g1 g2 g3 g4 =>
      obtain rfl := Option.some.inj (h1.symm.trans g1)
      have : p1 = p1' := by
        rcases h3 with ⟨x, rfl⟩ | ⟨x, _, rfl⟩ <;> rcases g3 with ⟨y, rfl⟩ | ⟨y, _, rfl⟩ <;> first | rfl | (rw [x] at y; cases y)
      subst this; rw [h4] at g4; cases g4
  | num p3 p1 h1 h2 h3 h4 =>
    cases g with
    | pc p3' g1 g2 => obtain rfl := Option.some.inj (h1.symm.trans g1); rw [g2] at h2; cases h2
    | dim p3' p1' g1 g2 g3 g4 =>
      obtain rfl := Option.some.inj (h1.symm.trans g1)
      have : p1 = p1' := by
        rcases h3 with ⟨x, rfl⟩ | ⟨x, _, rfl⟩ <;> rcases g3 with ⟨y, rfl⟩ | ⟨y, _, rfl⟩ <;> first | rfl | (rw [x] at y; cases y)
      subst this; rw [h4] at g4; cases g4
    | num p3' p1' g1 g2 g3 g4 => obtain rfl := Option.some.inj (h1.symm.trans g1); exact ⟨rfl, rfl⟩
theorem NumT.some {t : List UInt8} {p : Nat} {a : Int} {b : Nat} (h : NumT t p a b) : ∃ p3, fracEnd t (signEnd t p) = some p3 := by
  cases h with
  | pc p3 h1 _ => exact ⟨p3, h1⟩
  | dim p3 p1 h1 _ _ _ => exact ⟨p3, h1⟩
  | num p3 p1 h1 _ _ _ => exact ⟨p3, h1⟩
theorem NumT.numB {t : List UInt8} {p : Nat} {a : Int} {b : Nat} (h : NumT t p a b) : numB t p = true := by
  obtain ⟨p3, h⟩ := h.some
  rw [Css.numB, h]; rfl
theorem NumT.closed {t : List UInt8} {p : Nat} {a : Int} {b : Nat} (hn : NoBs t) (h : NumT t p a b) : idO t (numE t p) = false := by
  cases h with
  | pc p3 h1 h2 =>
    have he : numE t p = expEnd t p3 := by rw [numE, h1]; rfl
    rw [he, idO, hn.escO, h2]; simp [hn.escO]
  | dim p3 p1 h1 h2 h3 h4 =>
    have he : numE t p = expEnd t p3 := by rw [numE, h1]; rfl
    rw [he, idO]
    rcases h3 with ⟨x, rfl⟩ | ⟨x, y, rfl⟩
    · rw [x]; simp [hn.escO]
    · rw [x, y]; simp [hn.escO]
  | num p3 p1 h1 h2 h3 h4 =>
    have he : numE t p = expEnd t p3 := by rw [numE, h1]; rfl
    rw [he, idO]
    rcases h3 with ⟨x, rfl⟩ | ⟨x, y, rfl⟩
    · rw [x]; simp [hn.escO]
    · rw [x, y]; simp [hn.escO]
theorem numB_cls {t : List UInt8} {p : Nat} (h : numB t p = true) : (48 ≤ byte t p ∧ byte t p ≤ 57) ∨ byte t p = 46 ∨ ((byte t p = 43 ∨ byte t p = 45) ∧ ((48 ≤ byte t (p + 1) ∧ byte t (p + 1) ≤ 57) ∨ byte t (p + 1) = 46)) := by
  obtain ⟨p3, hf⟩ := numB_some h
  have key : ∀ s, fracEnd t s = some p3 → (48 ≤ byte t s ∧ byte t s ≤ 57) ∨ byte t s = 46 := by
    intro s hs
    unfold fracEnd at hs
    cases hd : isDg (byte t s) with
    | true => exact .inl (isDg_yes hd)
    | false =>
      rw [hd, if_neg Bool.false_ne_true] at hs
      split at hs
      · rename_i hx; simp only [Bool.and_eq_true, beq_iff_eq] at hx; exact .inr hx.1
      · cases hs
  by_cases h4 : byte t p = 43 ∨ byte t p = 45
  · have hs : signEnd t p = p + 1 := by rw [signEnd]; rcases h4 with e | e <;> rw [e] <;> rfl
    rw [hs] at hf
    exact .inr (.inr ⟨h4, key _ hf⟩)
  · have hs : signEnd t p = p := by
      rw [signEnd, beq_eq_false_iff_ne.2 fun e => h4 (.inl e), beq_eq_false_iff_ne.2 fun e => h4 (.inr e)]; rfl
    rw [hs] at hf
    rcases key _ hf with x | x
    · exact .inl x
    · exact .inr (.inl x)
theorem IL.st {t : List UInt8} {p p1 : Nat} {a : Int} {b : Nat} (h : IL t p p1 a b) : isSt (byte t p1) = true := by
  cases h <;> assumption
theorem IL.det {t : List UInt8} {p p1 : Nat} {a c : Int} {b d : Nat} (h : IL t p p1 a b) (g : IL t p p1 c d) : a = c ∧ b = d := by
  cases h with
  | id h1 h2 =>
    cases g with
    | id g1 g2 => exact ⟨rfl, rfl⟩
    | fn q g1 g2 g3 g4 => rw [g2, g3] at h2; cases h2
    | url q a b c g1 g2 g3 => rw [g2, g3] at h2; cases h2
  | fn q h1 h2 h3 h4 =>
    cases g with
    | id g1 g2 => rw [h2, h3] at g2; cases g2
    | fn q g1 g2 g3 g4 => rw [h2] at g2; subst g2; exact ⟨rfl, rfl⟩
    | url q a b c g1 g2 g3 g4 => rw [h2] at g2; subst g2; rw [h4] at g4; cases g4
  | url q a b c h1 h2 h3 h4 h5 h6 h7 h8 h9 h10 =>
    cases g with
    | id g1 g2 => rw [h2, h3] at g2; cases g2
    | fn q g1 g2 g3 g4 => rw [h2] at g2; subst g2; rw [h4] at g4; cases g4
    | url q a b c g1 g2 g3 g4 g5 g6 g7 g8 g9 g10 => rw [h2] at g2; subst g2; rw [h5] at g5; subst g5; rw [h7] at g7; subst g7; rw [h9] at g9; subst g9; exact ⟨rfl, rfl⟩
theorem IL.closed {t : List UInt8} {p p1 : Nat} {a : Int} {b : Nat} (h : IL t p p1 a b) (he : spanEnd t isNm p = spanEnd t isNm (p1 + 1)) : idlO t p = false := by
  rw [idlO, he]
  cases h with
  | id h1 h2 => rw [h2]; simp
  | fn q h1 h2 h3 h4 => rw [h2, h4]; simp
  | url q a b c h1 h2 h3 h4 h5 h6 h7 h8 h9 h10 =>
    rw [h2, addO, h5, h7, h9, h10]
    rcases h8 with e | e
    · rw [e]; simp
    · rw [e]; simp

set_option maxHeartbeats 2000000 in
/-- Where a token's first bytes stand. -/
theorem Tk.view {t : List UInt8} {p : Nat} {tt : Int} {q : Nat} (h : Tk t p tt q) : (tt = 20 ∨ tt = 3) ∨
    ((byte t p, tt) ∈ [((40 : Int), (28 : Int)), (41, 29), (44, 25), (58, 23), (59, 24), (91, 26), (93, 27), (123, 30), (125, 31)] ∧ q = p + 1) ∨
    (byte t p = 35 ∧ isNm (byte t (p + 1)) = true ∧ tt = 4 ∧ q = spanEnd t isNm (p + 1)) ∨
    ((byte t p = 34 ∨ byte t p = 39) ∧ strO t p = false ∧ tt = 5 ∧ q = spanEnd t (inq (byte t p)) (p + 1) + 1) ∨
    NumT t p tt q ∨
    ((byte t p = 46 ∨ byte t p = 43) ∧ fracEnd t (signEnd t p) = none ∧ tt = 9 ∧ q = p + 1) ∨
    (∃ p1, ((byte t p = 45 ∧ byte t (p + 1) ≠ 45 ∧ p1 = p + 1) ∨ (byte t p ≠ 45 ∧ p1 = p)) ∧ codB t p = false ∧ spanEnd t isNm p = spanEnd t isNm (p1 + 1) ∧ IL t p p1 tt q) ∨
    ((byte t p, tt) ∈ [((36 : Int), (17 : Int)), (42, 18), (94, 16), (126, 14), (124, 15)] ∧ byte t (p + 1) = 61 ∧ q = p + 2) ∨
    (((byte t p = 42 ∨ byte t p = 126) ∧ byte t (p + 1) ≠ 61) ∧ tt = 9 ∧ q = p + 1) ∨
    ((byte t p = 62 ∨ byte t p = 61) ∧ tt = 9 ∧ q = p + 1) := by
  cases h with
  | ws h => exact .inl (.inl rfl)
  | one c tt h1 h2 =>
    refine .inr (.inl ⟨?_, rfl⟩)
    rw [h1]; simp only [List.mem_cons, Prod.mk.injEq, List.not_mem_nil, or_false] at h2
    rcases h2 with ⟨rfl, rfl⟩ | ⟨rfl, rfl⟩ | ⟨rfl, rfl⟩ <;> simp
  | br c tt h1 h2 =>
    refine .inr (.inl ⟨?_, rfl⟩)
    rw [h1]; simp only [List.mem_cons, Prod.mk.injEq, List.not_mem_nil, or_false] at h2
    rcases h2 with ⟨rfl, rfl⟩ | ⟨rfl, rfl⟩ | ⟨rfl, rfl⟩ | ⟨rfl, rfl⟩ | ⟨rfl, rfl⟩ | ⟨rfl, rfl⟩ <;> simp
  | hash h1 h2 => exact .inr (.inr (.inl ⟨h1, h2, rfl, rfl⟩))
  | str q h1 h2 h3 h4 h5 =>
    have hs : spanEnd t (inq (byte t p)) (p + 1) = q := by
      refine span_is ?_ (by omega) (fun i hi hq => ?_) ?_
      · simp [inq]
      · have := h4 i (by omega) (by omega)
        have := h5 i (by omega) hq
        simp only [inq, isNL, Bool.and_eq_true, Bool.not_eq_true', Bool.or_eq_false_iff, beq_eq_false_iff_ne]
        omega
      · rw [h3]; simp [inq]
    refine .inr (.inr (.inr (.inl ⟨h1, ?_, rfl, by rw [hs]⟩)))
    rw [strO, hs, h3]; simp
  | numD tt q h1 h2 => exact .inr (.inr (.inr (.inr (.inl h2))))
  | numS tt q h1 h2 => exact .inr (.inr (.inr (.inr (.inl h2))))
  | delS h1 h2 => exact .inr (.inr (.inr (.inr (.inr (.inl ⟨h1, h2, rfl, rfl⟩)))))
  | hyI tt q h1 h2 h3 =>
    refine .inr (.inr (.inr (.inr (.inr (.inr (.inl ⟨p + 1, .inl ⟨h1, beq_eq_false_iff_ne.1 h2, rfl⟩, ?_, ?_, h3⟩))))))
    · rw [codB, h1]; rfl
    · rw [spanEnd_step (f := isNm) rfl (by rw [h1]; decide), spanEnd_step (f := isNm) rfl (isSt_nm h3.st)]
  | hyN tt q h1 h2 h3 h4 => exact .inr (.inr (.inr (.inr (.inl h4))))
  | at_ h1 h2 => exact .inl (.inr rfl)
  | mt c tt h1 h2 h3 =>
    refine .inr (.inr (.inr (.inr (.inr (.inr (.inr (.inl ⟨?_, h2, rfl⟩)))))))
    rw [h1]; exact h3
  | mdel h1 h2 => exact .inr (.inr (.inr (.inr (.inr (.inr (.inr (.inr (.inl ⟨⟨h1, beq_eq_false_iff_ne.1 h2⟩, rfl, rfl⟩))))))))
  | uI tt q h1 h2 h3 =>
    refine .inr (.inr (.inr (.inr (.inr (.inr (.inl ⟨p, .inr ⟨by omega, rfl⟩, ?_, spanEnd_step (f := isNm) rfl (isSt_nm h3.st), h3⟩))))))
    rw [codB]
    rcases h2 with h2 | ⟨a, b⟩
    · rw [h2]; simp
    · rw [a, b]; simp
  | stI tt q h1 h2 h3 =>
    refine .inr (.inr (.inr (.inr (.inr (.inr (.inl ⟨p, .inr ⟨fun e => by rw [e] at h1; exact absurd h1 (by decide), rfl⟩, ?_, spanEnd_step (f := isNm) rfl (isSt_nm h3.st), h3⟩))))))
    rw [codB, beq_eq_false_iff_ne.2 h2.1, beq_eq_false_iff_ne.2 h2.2]; rfl
  | del h1 => exact .inr (.inr (.inr (.inr (.inr (.inr (.inr (.inr (.inr ⟨h1, rfl, rfl⟩))))))))

set_option maxHeartbeats 4000000 in
/-- A token that the lexer knows is the one that the reference reads. -/
theorem Tk.det {R : Rx} {p : Nat} {tt0 tt : Int} {q0 q : Nat} {o' : Bool} (hn : NoBs R.t) (hz : NoZ R.t) (hT : Tk R.t p tt0 q0) (ha : tt0 ≠ 3 ∧ tt0 ≠ 20) (hD : TokD R p false tt q o') : tt = tt0 ∧ q = q0 ∧ o' = false := by
  have cw : isWS (byte R.t p) = true → byte R.t p = 32 ∨ byte R.t p = 9 ∨ byte R.t p = 10 ∨ byte R.t p = 13 ∨ byte R.t p = 12 := fun h => by have := isWS_yes h; omega
  have cc : codB R.t p = true → (byte R.t p = 117 ∨ byte R.t p = 85) := fun h => by
    simp only [codB, Bool.and_eq_true, Bool.or_eq_true, beq_iff_eq] at h; exact h.1.1
  have ci : idB R.t p = true → (byte R.t p = 45 ∧ isSt (byte R.t (p + 1)) = true) ∨ (byte R.t p ≠ 45 ∧ isSt (byte R.t p) = true) := fun h => by
    unfold idB at h
    simp only [hn.escB, Bool.or_false] at h
    by_cases e : byte R.t p = 45
    · rw [e] at h; exact .inl ⟨e, h⟩
    · rw [beq_eq_false_iff_ne.2 e] at h; exact .inr ⟨e, h⟩
  have ci2 : idB R.t p = false → (byte R.t p = 45 ∧ isSt (byte R.t (p + 1)) = false) ∨ (byte R.t p ≠ 45 ∧ isSt (byte R.t p) = false) := fun h => by
    unfold idB at h
    simp only [hn.escB, Bool.or_false] at h
    by_cases e : byte R.t p = 45
    · rw [e] at h; exact .inl ⟨e, h⟩
    · rw [beq_eq_false_iff_ne.2 e] at h; exact .inr ⟨e, h⟩
  have hio : byte R.t p ≠ 45 ∨ byte R.t (p + 1) ≠ 45 → idO R.t p = false := fun h => by
    unfold idO
    simp only [hn.escO, Bool.and_false, Bool.or_false]
    split
    · rename_i e
      rw [beq_iff_eq] at e
      rcases h with h | h
      · exact absurd e h
      · exact beq_eq_false_iff_ne.2 h
    · rfl
  have cn := @numB_cls R.t p
  rcases hD with ⟨hD, _⟩ | ⟨hQ, hD⟩ | ⟨hN, hD⟩ | ⟨hI, hD⟩ | ⟨hnq, hnn, hni, _, hD⟩
  · -- blanks, comments, ranges, two hyphens
    exfalso
    have hb : (byte R.t p = 32 ∨ byte R.t p = 9 ∨ byte R.t p = 10 ∨ byte R.t p = 13 ∨ byte R.t p = 12) ∨ byte R.t p = 47 ∨ (codB R.t p = true ∧ (byte R.t p = 117 ∨ byte R.t p = 85)) ∨ (byte R.t p = 45 ∧ byte R.t (p + 1) = 45) := by
      rcases hD with h | h | h | h
      · exact .inl (cw h)
      · exact .inr (.inl h.1)
      · exact .inr (.inr (.inl ⟨h, cc h⟩))
      · exact .inr (.inr (.inr h))
    clear hD cw cc
    rcases hT.view with h | ⟨h, _⟩ | ⟨h, _⟩ | ⟨h, _⟩ | h | ⟨h, _⟩ | ⟨p1, h1, h2, h3, h4⟩ | ⟨h, _⟩ | ⟨⟨h, _⟩, _⟩ | ⟨h, _⟩
    · omega
    · simp only [List.mem_cons, Prod.mk.injEq, List.not_mem_nil, or_false] at h; omega
    · omega
    · omega
    · have := cn h.numB; omega
    · omega
    · rw [h2] at hb
      have h5 := isSt_yes h4.st
      simp only [Bool.false_eq_true, false_and, false_or] at hb
      rcases h1 with ⟨a, b, rfl⟩ | ⟨a, rfl⟩ <;> omega
    · simp only [List.mem_cons, Prod.mk.injEq, List.not_mem_nil, or_false] at h; omega
    · omega
    · omega
  · -- a string
    have hov := hD.2 hn hz
    rcases hT.view with h | ⟨h, _⟩ | ⟨h, _⟩ | ⟨h, h2, h3, h4⟩ | h | ⟨h, _⟩ | ⟨p1, h1, h2, h3, h4⟩ | ⟨h, _⟩ | ⟨⟨h, _⟩, _⟩ | ⟨h, _⟩
    · omega
    · simp only [List.mem_cons, Prod.mk.injEq, List.not_mem_nil, or_false] at h; omega
    · omega
    · rw [h2] at hov
      obtain ⟨rfl, hk⟩ := hD.1 hov hn hz
      refine ⟨h3.symm, ?_, hov⟩
      rcases hk.view with h | ⟨h, _⟩ | ⟨h, _⟩ | ⟨h, g2, g3, g4⟩ | h | ⟨h, _⟩ | ⟨p1, h1, g2, g3, g4⟩ | ⟨h, _⟩ | ⟨⟨h, _⟩, _⟩ | ⟨h, _⟩
      · omega
      · simp only [List.mem_cons, Prod.mk.injEq, List.not_mem_nil, or_false] at h; omega
      · omega
      · rw [g4, h4]
      · have := cn h.numB; omega
      · omega
      · have h5 := isSt_yes g4.st
        rcases h1 with ⟨a, b, rfl⟩ | ⟨a, rfl⟩ <;> omega
      · simp only [List.mem_cons, Prod.mk.injEq, List.not_mem_nil, or_false] at h; omega
      · omega
      · omega
    · have := cn h.numB; omega
    · omega
    · have h5 := isSt_yes h4.st
      rcases h1 with ⟨a, b, rfl⟩ | ⟨a, rfl⟩ <;> omega
    · simp only [List.mem_cons, Prod.mk.injEq, List.not_mem_nil, or_false] at h; omega
    · omega
    · omega
  · -- a number
    have hc := cn hN
    rcases hT.view with h | ⟨h, _⟩ | ⟨h, _⟩ | ⟨h, h2, h3, h4⟩ | h | ⟨h, h2, _⟩ | ⟨p1, h1, h2, h3, h4⟩ | ⟨h, _⟩ | ⟨⟨h, _⟩, _⟩ | ⟨h, _⟩
    · omega
    · simp only [List.mem_cons, Prod.mk.injEq, List.not_mem_nil, or_false] at h; omega
    · omega
    · omega
    · have ho := hD.2 hn
      rw [h.closed hn] at ho
      have hk := (hD.1 ho hn).det h
      exact ⟨hk.1, hk.2, ho⟩
    · rw [numB, h2] at hN; cases hN
    · have h5 := isSt_yes h4.st
      rcases h1 with ⟨a, b, rfl⟩ | ⟨a, rfl⟩ <;> omega
    · simp only [List.mem_cons, Prod.mk.injEq, List.not_mem_nil, or_false] at h; omega
    · omega
    · omega
  · -- a name
    have hc : (byte R.t p = 45 ∧ _) ∨ (byte R.t p ≠ 45 ∧ _) := (ci hI).imp (fun h => ⟨h.1, isSt_yes h.2⟩) (fun h => ⟨h.1, isSt_yes h.2⟩)
    rcases hT.view with h | ⟨h, _⟩ | ⟨h, _⟩ | ⟨h, h2, h3, h4⟩ | h | ⟨h, h2, _⟩ | ⟨p1, h1, h2, h3, h4⟩ | ⟨h, _⟩ | ⟨⟨h, _⟩, _⟩ | ⟨h, _⟩
    · omega
    · simp only [List.mem_cons, Prod.mk.injEq, List.not_mem_nil, or_false] at h; omega
    · omega
    · omega
    · have := cn h.numB; omega
    · omega
    · have ho := hD.1 hn
      rw [h4.closed h3, hio (by rcases h1 with h | h <;> omega)] at ho
      have hk := (hD.2 ho hn hz p1 h4.st h3).det h4
      exact ⟨hk.1, hk.2, ho⟩
    · simp only [List.mem_cons, Prod.mk.injEq, List.not_mem_nil, or_false] at h; omega
    · omega
    · omega
  · -- a sign
    have hc := ci2 hni
    have hnn' : ¬ numB R.t p = true := by rw [hnn]; exact Bool.false_ne_true
    have hs : byte R.t p ≠ 45 ∨ byte R.t (p + 1) ≠ 45 → (byte R.t p = 64 ∨ byte R.t p = 60 ∨ (byte R.t p = 124 ∧ byte R.t (p + 1) = 124)) ∨
        ((byte R.t p, tt) ∈ [((40 : Int), (28 : Int)), (41, 29), (44, 25), (58, 23), (59, 24), (91, 26), (93, 27), (123, 30), (125, 31)] ∧ q = p + 1 ∧ o' = false) ∨
        ((byte R.t p, tt) ∈ [((36 : Int), (17 : Int)), (42, 18), (94, 16), (126, 14), (124, 15)] ∧ byte R.t (p + 1) = 61 ∧ q = p + 2 ∧ o' = false) ∨
        (byte R.t p = 35 ∧ (isNm (byte R.t (p + 1)) = true → tt = 4 ∧ q = spanEnd R.t isNm (p + 1) ∧ o' = false)) ∨
        ((byte R.t p ≠ 40 ∧ byte R.t p ≠ 41 ∧ byte R.t p ≠ 44 ∧ byte R.t p ≠ 58 ∧ byte R.t p ≠ 59 ∧ byte R.t p ≠ 91 ∧ byte R.t p ≠ 93 ∧ byte R.t p ≠ 123 ∧ byte R.t p ≠ 125 ∧ byte R.t p ≠ 35) ∧
          ((byte R.t p = 36 ∨ byte R.t p = 42 ∨ byte R.t p = 94 ∨ byte R.t p = 126 ∨ byte R.t p = 124) → byte R.t (p + 1) ≠ 61) ∧ tt = 9 ∧ q = p + 1 ∧ o' = false) := by
      intro h45
      have ho := hio h45
      rw [ho] at hD
      cases hD with
      | sp tt q o' h _ => exact .inl h
      | one tt h => exact .inr (.inl ⟨h, rfl, rfl⟩)
      | mt tt h h2 => exact .inr (.inr (.inl ⟨h, h2, rfl, rfl⟩))
      | hash tt q o' h h2 _ => exact .inr (.inr (.inr (.inl ⟨h, fun x => h2 x hn⟩)))
      | del h h2 _ =>
        refine .inr (.inr (.inr (.inr ⟨⟨h 40 (by decide), h 41 (by decide), h 44 (by decide), h 58 (by decide), h 59 (by decide), h 91 (by decide), h 93 (by decide), h 123 (by decide), h 125 (by decide), h 35 (by decide)⟩, fun hx => ?_, rfl, rfl, rfl⟩)))
        rcases hx with hx | hx | hx | hx | hx
        · exact beq_eq_false_iff_ne.1 (h2 36 (by decide) hx)
        · exact beq_eq_false_iff_ne.1 (h2 42 (by decide) hx)
        · exact beq_eq_false_iff_ne.1 (h2 94 (by decide) hx)
        · exact beq_eq_false_iff_ne.1 (h2 126 (by decide) hx)
        · exact beq_eq_false_iff_ne.1 (h2 124 (by decide) hx)
    rcases hT.view with h | ⟨h, h2⟩ | ⟨h, h2, h3, h4⟩ | ⟨h, h2, h3, h4⟩ | h | ⟨h, h2, h3, h4⟩ | ⟨p1, h1, h2, h3, h4⟩ | ⟨h, h2, h3⟩ | ⟨⟨h, h2⟩, h3, h4⟩ | ⟨h, h3, h4⟩
    · omega
    · have h' := h
      simp only [List.mem_cons, Prod.mk.injEq, List.not_mem_nil, or_false] at h'
      have hs := hs (by omega)
      simp only [List.mem_cons, Prod.mk.injEq, List.not_mem_nil, or_false] at hs
      rcases hs with hs | ⟨a, b, c⟩ | ⟨a, b, c, d⟩ | ⟨a, b⟩ | ⟨a, b, c, d, e⟩
      · omega
      · exact ⟨by omega, by omega, c⟩
      · omega
      · omega
      · omega
    · have hs := hs (by omega)
      simp only [List.mem_cons, Prod.mk.injEq, List.not_mem_nil, or_false] at hs
      rcases hs with hs | ⟨a, b, c⟩ | ⟨a, b, c, d⟩ | ⟨a, b⟩ | ⟨a, b, c, d, e⟩
      · omega
      · omega
      · omega
      · have := b h2; exact ⟨by omega, by omega, this.2.2⟩
      · omega
    · exact absurd h hnq
    · exact absurd h.numB hnn'
    · have hs := hs (by omega)
      simp only [List.mem_cons, Prod.mk.injEq, List.not_mem_nil, or_false] at hs
      rcases hs with hs | ⟨a, b, c⟩ | ⟨a, b, c, d⟩ | ⟨a, b⟩ | ⟨a, b, c, d, e⟩
      · omega
      · omega
      · omega
      · omega
      · exact ⟨by omega, by omega, e⟩
    · exfalso
      have h5 := h4.st
      rcases h1 with ⟨a, b, rfl⟩ | ⟨a, rfl⟩
      · rcases hc with ⟨_, x⟩ | ⟨x, _⟩
        · rw [x] at h5; cases h5
        · exact x a
      · rcases hc with ⟨x, _⟩ | ⟨_, x⟩
        · exact a x
        · rw [x] at h5; cases h5
    · have h' := h
      simp only [List.mem_cons, Prod.mk.injEq, List.not_mem_nil, or_false] at h'
      have hs := hs (by omega)
      simp only [List.mem_cons, Prod.mk.injEq, List.not_mem_nil, or_false] at hs
      rcases hs with hs | ⟨a, b, c⟩ | ⟨a, b, c, d⟩ | ⟨a, b⟩ | ⟨a, b, c, d, e⟩
      · omega
      · omega
      · exact ⟨by omega, by omega, d⟩
      · omega
      · omega
    · have hs := hs (by omega)
      simp only [List.mem_cons, Prod.mk.injEq, List.not_mem_nil, or_false] at hs
      rcases hs with hs | ⟨a, b, c⟩ | ⟨a, b, c, d⟩ | ⟨a, b⟩ | ⟨a, b, c, d, e⟩
      · omega
      · omega
      · omega
      · omega
      · exact ⟨by omega, by omega, e⟩
    · have hs := hs (by omega)
      simp only [List.mem_cons, Prod.mk.injEq, List.not_mem_nil, or_false] at hs
      rcases hs with hs | ⟨a, b, c⟩ | ⟨a, b, c, d⟩ | ⟨a, b⟩ | ⟨a, b, c, d, e⟩
      · omega
      · omega
      · omega
      · omega
      · exact ⟨by omega, by omega, e⟩


/-- A delimiter, known from its text alone. -/
def Del9 (t : List UInt8) (p : Nat) : Prop :=
  ¬ (byte t p = 34 ∨ byte t p = 39) ∧ numB t p = false ∧ idB t p = false ∧ (isWS (byte t p) = false ∧ (byte t p == 47 && byte t (p + 1) == 42) = false ∧ codB t p = false) ∧ SgnD t p (false || idO t p) 9 (p + 1) false
theorem TokD.nine {R : Rx} {p q : Nat} (hn : NoBs R.t) (hz : NoZ R.t) (hD : TokD R p false 9 q false) : Del9 R.t p ∧ q = p + 1 := by
  rcases hD with ⟨_, hD⟩ | ⟨hQ, hD⟩ | ⟨hN, hD⟩ | ⟨hI, hD⟩ | ⟨hnq, hnn, hni, hx, hD⟩
  · exact absurd rfl hD
  · exact absurd (hD.1 rfl hn hz).1 (by decide)
  · have := hD.1 rfl hn
    cases this <;> omega
  · have hio : idO R.t p = false := by
      have := hD.1 hn
      cases hx : idO R.t p with
      | false => rfl
      | true => rw [hx] at this; simp at this
    obtain ⟨p1, hp1, hs1, he1⟩ := idB_yes hn hI hio
    have := hD.2 rfl hn hz p1 hs1 he1
    cases this <;> omega
  · have hq : q = p + 1 := by
      generalize (false || idO R.t p) = o1 at hD
      cases hD with
      | sp _ _ _ _ h2 =>
        by_cases hs : Sp9 R.t p
        · exact ((h2 hn).1 hs).2.1
        · exact absurd rfl ((h2 hn).2 hs)
      | one _ h => simp only [List.mem_cons, Prod.mk.injEq, List.not_mem_nil, or_false] at h; omega
      | mt _ h _ => simp only [List.mem_cons, Prod.mk.injEq, List.not_mem_nil, or_false] at h; omega
      | hash _ _ _ _ h2 h3 =>
        cases hm : isNm (byte R.t (p + 1)) with
        | true => exact absurd (h2 hm hn).1 (by decide)
        | false => exact (h3 hm hn).2.1
      | del _ _ _ => rfl
    subst hq
    exact ⟨⟨hnq, hnn, hni, hx, hD⟩, rfl⟩
theorem SgnD.det9 {t : List UInt8} {p q : Nat} {o o' : Bool} {tt : Int} (hn : NoBs t) (h : SgnD t p o 9 (p + 1) false) (h' : SgnD t p o tt q o') : tt = 9 ∧ q = p + 1 ∧ o' = false := by
  generalize hq : p + 1 = r at h
  generalize hf : false = f at h
  generalize ht : (9 : Int) = k at h
  cases h with
  | sp _ _ _ a b =>
    subst ht; subst hf
    have hs : Sp9 t p := by
      by_cases hs : Sp9 t p
      · exact hs
      · exact absurd rfl ((b hn).2 hs)
    have hb := ((b hn).1 hs).2.2
    cases h' with
    | sp _ _ _ a' b' =>
      obtain ⟨c1, c2, c3⟩ := (b' hn).1 hs
      exact ⟨c1, c2.trans hq, c3.trans hb.symm⟩
    | one _ c => simp only [List.mem_cons, Prod.mk.injEq, List.not_mem_nil, or_false] at c; omega
    | mt _ c d => simp only [List.mem_cons, Prod.mk.injEq, List.not_mem_nil, or_false] at c; omega
    | hash _ _ _ c _ _ => omega
    | del c _ d => omega
  | one _ c => simp only [List.mem_cons, Prod.mk.injEq, List.not_mem_nil, or_false] at c; omega
  | mt _ c d => simp only [List.mem_cons, Prod.mk.injEq, List.not_mem_nil, or_false] at c; omega
  | hash _ _ _ a b c =>
    subst ht; subst hf
    have hm : isNm (byte t (p + 1)) = false := by
      cases hm : isNm (byte t (p + 1)) with
      | true => exact absurd (b hm hn).1 (by decide)
      | false => rfl
    have hb := (c hm hn).2.2
    cases h' with
    | sp _ _ _ a' b' => omega
    | one _ d => simp only [List.mem_cons, Prod.mk.injEq, List.not_mem_nil, or_false] at d; omega
    | mt _ d _ => simp only [List.mem_cons, Prod.mk.injEq, List.not_mem_nil, or_false] at d; omega
    | hash _ _ _ _ _ d =>
      obtain ⟨c1, c2, c3⟩ := d hm hn
      exact ⟨c1, c2.trans hq, c3.trans hb.symm⟩
    | del d _ _ => exact absurd a (d 35 (by decide))
  | del a b c =>
    subst hf
    cases h' with
    | sp _ _ _ a' _ => omega
    | one _ d =>
      have a1 := a 40 (by decide); have a2 := a 41 (by decide); have a3 := a 44 (by decide); have a4 := a 58 (by decide); have a5 := a 59 (by decide); have a6 := a 91 (by decide); have a7 := a 93 (by decide); have a8 := a 123 (by decide); have a9 := a 125 (by decide)
      simp only [List.mem_cons, Prod.mk.injEq, List.not_mem_nil, or_false] at d
      omega
    | mt _ d e =>
      have b1 := fun x => beq_eq_false_iff_ne.1 (b 36 (by decide) x)
      have b2 := fun x => beq_eq_false_iff_ne.1 (b 42 (by decide) x)
      have b3 := fun x => beq_eq_false_iff_ne.1 (b 94 (by decide) x)
      have b4 := fun x => beq_eq_false_iff_ne.1 (b 126 (by decide) x)
      have b5 := fun x => beq_eq_false_iff_ne.1 (b 124 (by decide) x)
      simp only [List.mem_cons, Prod.mk.injEq, List.not_mem_nil, or_false] at d
      rcases d with ⟨d, _⟩ | ⟨d, _⟩ | ⟨d, _⟩ | ⟨d, _⟩ | ⟨d, _⟩
      · exact absurd e (b1 d)
      · exact absurd e (b2 d)
      · exact absurd e (b3 d)
      · exact absurd e (b4 d)
      · exact absurd e (b5 d)
    | hash _ _ _ d _ _ => exact absurd d (a 35 (by decide))
    | del _ _ _ => exact ⟨rfl, rfl, rfl⟩
theorem Del9.det {R : Rx} {p q : Nat} {o' : Bool} {tt : Int} (hn : NoBs R.t) (h : Del9 R.t p) (hD : TokD R p false tt q o') : tt = 9 ∧ q = p + 1 ∧ o' = false := by
  obtain ⟨d1, d2, d3, ⟨d4, d5, d6⟩, d7⟩ := h
  rcases hD with ⟨hD, _⟩ | ⟨hQ, _⟩ | ⟨hN, _⟩ | ⟨hI, _⟩ | ⟨_, _, _, _, hD⟩
  · exfalso
    rcases hD with e | ⟨e1, e2⟩ | e | ⟨e1, e2⟩
    · rw [e] at d4; cases d4
    · rw [e1, e2] at d5; cases d5
    · rw [e] at d6; cases d6
    · have hio : (false || idO R.t p) = true := by simp [idO, e1, e2]
      rw [hio] at d7
      generalize hq : p + 1 = r at d7
      generalize hf : false = f at d7
      generalize ht : (9 : Int) = k at d7
      cases d7 with
      | sp _ _ _ a _ => omega
      | one _ c => simp only [List.mem_cons, Prod.mk.injEq, List.not_mem_nil, or_false] at c; omega
      | mt _ c _ => simp only [List.mem_cons, Prod.mk.injEq, List.not_mem_nil, or_false] at c; omega
      | hash _ _ _ c _ _ => omega
      | del _ _ _ => cases hf
  · exact absurd hQ d1
  · rw [hN] at d2; cases d2
  · rw [hI] at d3; cases d3
  · exact SgnD.det9 hn d7 hD
end Go.Proofs.YtlglijnaeaonpaaGreatDoor.Css
