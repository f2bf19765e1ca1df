/- Whether a text is of characters: the look ends, whatever the text. -/
import Derived.Test.YtlglijnaeaonpaaGreatDoorMo
set_option linter.all false
/- Whether a text is of characters: the look ends, whatever the text. -/
namespace Go.Proofs.YtlglijnaeaonpaaGreatDoor.Css
open Go.RowKit

/-- The look gives some answer. -/
def VPost (w : World) (e : Ending) (w' : World) : Prop := ∃ r, e = .returned (.bool r) ∧ Below w.heap.size w w'

set_option maxRecDepth 100000 in
set_option maxHeartbeats 4000000 in
theorem valid_any (w : World) (b off n cap : Nat) (h : Byt w b off n) (hU : Utab w) (hb : b < w.heap.size) (hcap : n ≤ cap) (hl : cap ≤ 140737488351232) :
    Calls Tryz.prog 103 #[.slice (some ⟨b, off, none⟩) n cap] w (VPost w) := by
  have H := Lib.hid h
  have HU := Lib.hid hU
  clear h hU
  go_enter Tryz.func103, Tryz.ntmps103
  go_wp2
  go_loopg [0] n (fun k v wr => ∃ o m, v = .slice (some ⟨b, o, none⟩) m m ∧ k = m ∧ m ≤ n ∧ Byt w b o m ∧ Below w.heap.size w wr)
  case atStart => exact ⟨off, n, rfl, rfl, Nat.le_refl _, H.out, Below.refl _ _⟩
  case round =>
    obtain ⟨o, m, rfl, hk, hmn, hby, hbel⟩ := hrel
    have HB := Lib.hid hby
    have HK := Lib.hid hk
    clear hby hk
    by_cases hm : m = 0
    · have hm' : ¬ 0 < m := by omega
      clear hm
      go_wp2
      go_ret
      exact ⟨true, rfl, hbel⟩
    have hm0 : 0 < m := by omega
    obtain ⟨c0, l0, u0, hc0⟩ := HB.out.at hbel hb 0 hm0
    rw [Nat.add_zero] at hc0
    by_cases h128 : c0 < 128
    · by_cases hm1 : m = 1
      · subst hm1
        go_wp2
        go_roundg 0
        case measure => have := HK.out; omega
        case rel => exact ⟨o, 0, rfl, rfl, by omega, fun i hi => by omega, hbel⟩
      · have hm1' : 1 < m := by omega
        obtain ⟨m1, hm1e⟩ : ∃ m1, m1 = m - 1 := ⟨_, rfl⟩
        have HBY := Lib.hid (show Byt w b (o + 1) m1 from by rw [hm1e]; exact HB.out.drop 1 (by omega))
        have hm1c : ¬ m = 1 := hm1
        go_upto_region 6 with fail
        rw [← hm1e]
        have HM := Lib.hid (show m1 = m - 1 ∧ 0 < m ∧ m ≤ n from ⟨hm1e, hm0, hmn⟩)
        clear hm1 hm1c hm1' hm1e hm0 h128 l0 u0 hc0 hm hmn
        go_cut [31] (fun s wx => ∃ c : Bool, s = .bool c ∧ (c = true → 8 < m1) ∧ Below w.heap.size w wx)
        case first =>
          as_aux_lemma =>
          by_cases h8 : 8 < m1
          · obtain ⟨v, hv, _⟩ := HBY.out.word hbel hb (by omega)
            have hbd := fun k => below_drewN hbel k
            go_wp2_with (go_at_call 133; ((with_reducible refine hv.mono ?_); rintro e w' ⟨rfl, k, rfl⟩))
            all_goals (go_meet; exact ⟨_, rfl, fun _ => h8, hbd _⟩)
          · go_wp2_with fail
            go_meet
            exact ⟨false, rfl, fun h => (by cases h), hbel⟩
        case rest =>
        clear hbel
        obtain ⟨c, rfl, hc8, hbel⟩ := hcut
        have HC8 := Lib.hid hc8
        clear hc8
        go_upto_if 31 with fail
        go_cut [0] (fun v wx => ∃ o2 m2, v = .slice (some ⟨b, o2, none⟩) m2 m2 ∧ m2 ≤ m1 ∧ Byt w b o2 m2 ∧ Below w.heap.size w wx)
        case first =>
          as_aux_lemma =>
          cases c with
          | false =>
            go_wp2_with fail
            go_meet
            exact ⟨o + 1, m1, rfl, Nat.le_refl _, HBY.out, hbel⟩
          | true =>
            have h8 := HC8.out rfl
            have h8c : ¬ m1 = 8 := by omega
            have h8d : 8 ≤ m1 := by omega
            go_upto_region 8 with fail
            obtain ⟨m2, hm2e⟩ : ∃ m2, m2 = m1 - 8 := ⟨_, rfl⟩
            obtain ⟨o2, ho2e⟩ : ∃ o2, o2 = o + 1 + 8 := ⟨_, rfl⟩
            have HBZ := Lib.hid (show Byt w b o2 m2 from by rw [hm2e, ho2e]; exact HBY.out.drop 8 (by omega))
            rw [show o + 1 + 8 = o + 9 from rfl] at ho2e
            rw [← hm2e, ← ho2e]
            have HM2 := Lib.hid (show m2 ≤ m1 from by omega)
            clear h8 h8c h8d hm2e ho2e
            by_cases h16 : 16 < m2
            · have g16 : (16 : Int) < m2 := by omega
              have g8 : 8 ≤ m2 := by omega
              have g8' : ¬ m2 = 8 := by omega
              obtain ⟨v1, _, hv1⟩ := HBZ.out.word hbel hb (by omega)
              obtain ⟨v2, _, hv2⟩ := (HBZ.out.drop 8 (by omega)).word hbel hb (by omega)
              go_quiet ((first | (go_at_call 133; with_reducible exact Calls.quiet_of (hv1 _)) | (go_at_call 133; with_reducible exact Calls.quiet_of (hv2 _))))
              have hbel2 := below_drewN hbel nq
              have g16' : 16 ≤ m2 := by omega
              have g16c : ¬ m2 = 16 := by omega
              have HBW := Lib.hid (show Byt w b (o2 + 16) (m2 - 16) from HBZ.out.drop 16 (by omega))
              obtain ⟨wq, hwq⟩ : ∃ wq, wq = wc.drewN nq := ⟨_, rfl⟩
              rw [← hwq] at hbel2 ⊢
              clear hwq hbel g16 g8 g8' hv1 hv2
              go_wp2_with fail
              · go_loopg [0] (m2 - 16) (fun k v wr => ∃ o3 m3, v = .slice (some ⟨b, o3, none⟩) m3 m3 ∧ k = m3 ∧ m3 ≤ m2 - 16 ∧ Byt w b o3 m3 ∧ Below w.heap.size w wr)
                case atStart => exact ⟨o2 + 16, m2 - 16, rfl, rfl, Nat.le_refl _, HBW.out, hbel2⟩
                case round =>
                  clear hbel2 h16 g16' g16c
                  obtain ⟨o3, m3, rfl, hk3, hm3, hby3, hbel3⟩ := hrel
                  have HB3 := Lib.hid hby3
                  have HK3 := Lib.hid (show _ ∧ _ from ⟨hk3, hm3⟩)
                  clear hby3 hk3 hm3
                  by_cases h32 : 32 < m3
                  · have g32 : (32 : Int) < m3 := by omega
                    have g8 : 8 ≤ m3 := by omega
                    have g8c : ¬ m3 = 8 := by omega
                    have g16 : 16 ≤ m3 := by omega
                    have g16c : ¬ m3 = 16 := by omega
                    have g24 : 24 ≤ m3 := by omega
                    have g24c : ¬ m3 = 24 := by omega
                    obtain ⟨v1, _, hv1⟩ := HB3.out.word hbel3 hb (by omega)
                    obtain ⟨v2, _, hv2⟩ := (HB3.out.drop 8 (by omega)).word hbel3 hb (by omega)
                    obtain ⟨v3, _, hv3⟩ := (HB3.out.drop 16 (by omega)).word hbel3 hb (by omega)
                    obtain ⟨v4, _, hv4⟩ := (HB3.out.drop 24 (by omega)).word hbel3 hb (by omega)
                    go_upto_region 10 with fail
                    go_quiet ((first | (go_at_call 133; with_reducible exact Calls.quiet_of (hv1 _)) | (go_at_call 133; with_reducible exact Calls.quiet_of (hv2 _)) | (go_at_call 133; with_reducible exact Calls.quiet_of (hv3 _)) | (go_at_call 133; with_reducible exact Calls.quiet_of (hv4 _))))
                    have hbel4 := below_drewN hbel3 nq
                    have g32' : 32 ≤ m3 := by omega
                    have g32c : ¬ m3 = 32 := by omega
                    clear hv1 hv2 hv3 hv4 g32 g8 g8c g16 g16c g24 g24c hbel3
                    go_wp2_with fail
                    · go_roundg (m3 - 32)
                      case measure => have := HK3.out; omega
                      case rel => exact ⟨o3 + 32, m3 - 32, rfl, rfl, by have := HK3.out; omega, HB3.out.drop 32 (by omega), hbel4⟩
                    · go_meet
                      exact ⟨o3, m3, rfl, by have h1 := HK3.out; have h2 := HM2.out; omega, HB3.out, hbel4⟩
                  · have g32 : decide ((32 : Int) < (m3 : Int)) = false := decide_eq_false (by omega)
                    go_upto_region 10 with fail
                    go_quiet (fail)
                    go_wp2_with fail
                    go_meet
                    exact ⟨o3, m3, rfl, by have h1 := HK3.out; have h2 := HM2.out; omega, HB3.out, below_drewN hbel3 _⟩
              · go_meet
                exact ⟨o2, m2, rfl, HM2.out, HBZ.out, hbel2⟩
            · have g16 : decide ((16 : Int) < (m2 : Int)) = false := decide_eq_false (by omega)
              go_quiet (fail)
              go_wp2_with fail
              go_meet
              exact ⟨o2, m2, rfl, HM2.out, HBZ.out, below_drewN hbel _⟩
        case rest =>
        clear hbel
        obtain ⟨o2, m2, rfl, hm2, hby2, hbel⟩ := hcut
        have HR := Lib.hid (show _ ∧ _ from ⟨hm2, hby2⟩)
        clear hm2 hby2
        go_wp2_with fail
        go_roundg m2
        case measure => have h1 := HK.out; have h2 := HR.out.1; have h3 := HM.out; omega
        case rel => exact ⟨o2, m2, rfl, rfl, by have h2 := HR.out.1; have h3 := HM.out; omega, HR.out.2, hbel⟩
    · have h128' : ¬ c0 < 128 := h128
      obtain ⟨i, rfl⟩ : ∃ i : Nat, c0 = i := ⟨c0.toNat, by omega⟩
      obtain ⟨x, hx, hxc⟩ := HU.out.first i (by omega)
      have hlt3 := HU.out.lt
      have hxc2 : wr.cell? ⟨2, i, none⟩ = some (.int .u8 x) := (hbel.cell (p := ⟨2, i, none⟩) (by show 2 < w.heap.size; omega)).trans hxc
      have HX := Lib.hid hx
      have ui : i < 256 := by omega
      clear hx hxc
      go_upto_region 13 with fail
      clear hxc2 h128 h128' hc0 l0 u0
      go_cut [5] (fun s wx => ∃ sz : Int, s = .int .i64 sz ∧ (sz = 0 ∨ sz = 1 ∨ sz = 2 ∨ sz = 3 ∨ sz = 4) ∧ wx = wr)
      case first =>
        as_aux_lemma =>
        rcases HX.out with rfl | rfl | rfl | rfl | rfl | rfl | rfl | rfl | rfl
        all_goals
          go_wp2_with fail
          go_meet
          exact ⟨_, rfl, by decide, rfl⟩
      case rest =>
      obtain ⟨sz, rfl, hsz, rfl⟩ := hcut
      have HSZ := Lib.hid hsz
      clear hsz
      have hacc := fun k (hk : k < 32) => HU.out.acc k hk
      go_upto_region 14 with fail
      go_cut [6] (fun s wx => ∃ (g : Nat) (lo hi : Int), s = .pointer (some ⟨g, 0, none⟩) ∧ wx.cell? ⟨g, 0, none⟩ = some (.int .u8 lo) ∧ wx.cell? ⟨g, 1, none⟩ = some (.int .u8 hi) ∧ Below w.heap.size w wx)
      case first =>
        as_aux_lemma =>
        have A := fun (k : Nat) (hk : k < 32) => show ∃ x : Int, wc.cell? ⟨3, k, none⟩ = some (.int .u8 x) from by
          obtain ⟨x, _, _, h⟩ := hacc k hk
          exact ⟨x, (hbel.cell (p := ⟨3, k, none⟩) (by show 3 < w.heap.size; omega)).trans h⟩
        obtain ⟨a0, A0⟩ := A 0 (by omega)
        obtain ⟨a1, A1⟩ := A 1 (by omega)
        obtain ⟨a2, A2⟩ := A 2 (by omega)
        obtain ⟨a3, A3⟩ := A 3 (by omega)
        obtain ⟨a4, A4⟩ := A 4 (by omega)
        obtain ⟨a5, A5⟩ := A 5 (by omega)
        obtain ⟨a6, A6⟩ := A 6 (by omega)
        obtain ⟨a7, A7⟩ := A 7 (by omega)
        obtain ⟨a8, A8⟩ := A 8 (by omega)
        obtain ⟨a9, A9⟩ := A 9 (by omega)
        obtain ⟨a30, A30⟩ := A 30 (by omega)
        obtain ⟨a31, A31⟩ := A 31 (by omega)
        clear A hacc
        have hb2 := fun o => hbel.alloc hbel.size o
        rcases HX.out with rfl | rfl | rfl | rfl | rfl | rfl | rfl | rfl | rfl
        all_goals
          go_wp2_with fail
          go_meet
          exact ⟨_, _, _, rfl, by rw [World.cell?_alloc_new]; rfl, by rw [World.cell?_alloc_new]; rfl, hb2 _⟩
      case rest =>
      clear hbel hacc
      obtain ⟨g, lo, hi, rfl, hlo, hhi, hbel⟩ := hcut
      rcases HSZ.out with rfl | rfl | rfl | rfl | rfl
      · go_wp2
        go_ret
        exact ⟨false, rfl, hbel⟩
      · go_wp2
        go_ret
        exact ⟨false, rfl, hbel⟩
      · as_aux_lemma =>
        by_cases hmz : m < 2
        · have g : decide ((m : Int) < 2) = true := decide_eq_true (by omega)
          go_wp2
          go_quiet (fail)
          go_wp2
          go_ret
          exact ⟨false, rfl, below_drewN hbel _⟩
        have g : decide ((m : Int) < 2) = false := decide_eq_false (by omega)
        have gm : 2 ≤ m := by omega
        obtain ⟨c1, l1, u1, hc1⟩ := HB.out.at hbel hb 1 (by omega)
        have b1 : (1 : Int) < m := by omega
        cases t0 : decide (c1 < lo) with
        | true =>
          go_wp2
          go_quiet (fail)
          go_wp2
          go_ret
          exact ⟨false, rfl, below_drewN hbel _⟩
        | false =>
        cases t1 : decide (hi < c1) with
        | true =>
          go_wp2
          go_quiet (fail)
          go_wp2
          go_ret
          exact ⟨false, rfl, below_drewN hbel _⟩
        | false =>
        by_cases hmc : m = 2
        · subst hmc
          go_wp2
          go_quiet (fail)
          go_wp2
          go_roundg 0
          case measure => have := HK.out; omega
          case rel => exact ⟨o, 0, rfl, rfl, by omega, fun i hi => by omega, below_drewN hbel _⟩
        · have HB2 := Lib.hid (HB.out.drop 2 (by omega))
          go_wp2
          go_quiet (fail)
          go_wp2
          go_roundg (m - 2)
          case measure => have := HK.out; omega
          case rel => exact ⟨o + 2, m - 2, rfl, rfl, by omega, HB2.out, below_drewN hbel _⟩
      · as_aux_lemma =>
        by_cases hmz : m < 3
        · have g : decide ((m : Int) < 3) = true := decide_eq_true (by omega)
          go_wp2
          go_quiet (fail)
          go_wp2
          go_ret
          exact ⟨false, rfl, below_drewN hbel _⟩
        have g : decide ((m : Int) < 3) = false := decide_eq_false (by omega)
        have gm : 3 ≤ m := by omega
        obtain ⟨c1, l1, u1, hc1⟩ := HB.out.at hbel hb 1 (by omega)
        have b1 : (1 : Int) < m := by omega
        obtain ⟨c2, l2, u2, hc2⟩ := HB.out.at hbel hb 2 (by omega)
        have b2 : (2 : Int) < m := by omega
        cases t0 : decide (c1 < lo) with
        | true =>
          go_wp2
          go_quiet (fail)
          go_wp2
          go_ret
          exact ⟨false, rfl, below_drewN hbel _⟩
        | false =>
        cases t1 : decide (hi < c1) with
        | true =>
          go_wp2
          go_quiet (fail)
          go_wp2
          go_ret
          exact ⟨false, rfl, below_drewN hbel _⟩
        | false =>
        cases t2 : decide (c2 < 128) with
        | true =>
          go_wp2
          go_quiet (fail)
          go_wp2
          go_ret
          exact ⟨false, rfl, below_drewN hbel _⟩
        | false =>
        cases t3 : decide (191 < c2) with
        | true =>
          go_wp2
          go_quiet (fail)
          go_wp2
          go_ret
          exact ⟨false, rfl, below_drewN hbel _⟩
        | false =>
        by_cases hmc : m = 3
        · subst hmc
          go_wp2
          go_quiet (fail)
          go_wp2
          go_roundg 0
          case measure => have := HK.out; omega
          case rel => exact ⟨o, 0, rfl, rfl, by omega, fun i hi => by omega, below_drewN hbel _⟩
        · have HB2 := Lib.hid (HB.out.drop 3 (by omega))
          go_wp2
          go_quiet (fail)
          go_wp2
          go_roundg (m - 3)
          case measure => have := HK.out; omega
          case rel => exact ⟨o + 3, m - 3, rfl, rfl, by omega, HB2.out, below_drewN hbel _⟩
      · as_aux_lemma =>
        by_cases hmz : m < 4
        · have g : decide ((m : Int) < 4) = true := decide_eq_true (by omega)
          go_wp2
          go_quiet (fail)
          go_wp2
          go_ret
          exact ⟨false, rfl, below_drewN hbel _⟩
        have g : decide ((m : Int) < 4) = false := decide_eq_false (by omega)
        have gm : 4 ≤ m := by omega
        obtain ⟨c1, l1, u1, hc1⟩ := HB.out.at hbel hb 1 (by omega)
        have b1 : (1 : Int) < m := by omega
        obtain ⟨c2, l2, u2, hc2⟩ := HB.out.at hbel hb 2 (by omega)
        have b2 : (2 : Int) < m := by omega
        obtain ⟨c3, l3, u3, hc3⟩ := HB.out.at hbel hb 3 (by omega)
        have b3 : (3 : Int) < m := by omega
        cases t0 : decide (c1 < lo) with
        | true =>
          go_wp2
          go_quiet (fail)
          go_wp2
          go_ret
          exact ⟨false, rfl, below_drewN hbel _⟩
        | false =>
        cases t1 : decide (hi < c1) with
        | true =>
          go_wp2
          go_quiet (fail)
          go_wp2
          go_ret
          exact ⟨false, rfl, below_drewN hbel _⟩
        | false =>
        cases t2 : decide (c2 < 128) with
        | true =>
          go_wp2
          go_quiet (fail)
          go_wp2
          go_ret
          exact ⟨false, rfl, below_drewN hbel _⟩
        | false =>
        cases t3 : decide (191 < c2) with
        | true =>
          go_wp2
          go_quiet (fail)
          go_wp2
          go_ret
          exact ⟨false, rfl, below_drewN hbel _⟩
        | false =>
        cases t4 : decide (c3 < 128) with
        | true =>
          go_wp2
          go_quiet (fail)
          go_wp2
          go_ret
          exact ⟨false, rfl, below_drewN hbel _⟩
        | false =>
        cases t5 : decide (191 < c3) with
        | true =>
          go_wp2
          go_quiet (fail)
          go_wp2
          go_ret
          exact ⟨false, rfl, below_drewN hbel _⟩
        | false =>
        by_cases hmc : m = 4
        · subst hmc
          go_wp2
          go_quiet (fail)
          go_wp2
          go_roundg 0
          case measure => have := HK.out; omega
          case rel => exact ⟨o, 0, rfl, rfl, by omega, fun i hi => by omega, below_drewN hbel _⟩
        · have HB2 := Lib.hid (HB.out.drop 4 (by omega))
          go_wp2
          go_quiet (fail)
          go_wp2
          go_roundg (m - 4)
          case measure => have := HK.out; omega
          case rel => exact ⟨o + 4, m - 4, rfl, rfl, by omega, HB2.out, below_drewN hbel _⟩
end Go.Proofs.YtlglijnaeaonpaaGreatDoor.Css
