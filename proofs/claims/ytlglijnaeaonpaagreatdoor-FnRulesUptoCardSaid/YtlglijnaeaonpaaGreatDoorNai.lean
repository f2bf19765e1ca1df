/- The parts of a sheet, out of their reading. -/
import Derived.Test.YtlglijnaeaonpaaGreatDoorNv
import Derived.Test.YtlglijnaeaonpaaGreatDoorNaa
import Derived.Test.YtlglijnaeaonpaaGreatDoorNah
import Derived.Test.YtlglijnaeaonpaaGreatDoorNac
set_option linter.all false
/- The parts of a sheet, out of their reading. -/
namespace Go.Proofs.YtlglijnaeaonpaaGreatDoor.Css
open Go.RowKit Go.ChangeShapes Go.WideShapes Go.Deep

instance : Inhabited (PT × Value × Value × Value × Value) := ⟨(.mk ⟨#[]⟩ [] [] [] [], .nilFunc, .nilFunc, .nilFunc, .nilFunc)⟩
theorem PartsMem.nilv (w : World) : PartsMem w (.slice none 0 0) [] :=
  .mk none 0 [] (fun _ => .nilFunc) (fun _ => .nilFunc) (fun _ => .nilFunc) (fun _ => .nilFunc) 0 0 (Nat.le_refl _) (by omega) (fun h => absurd h (by simp)) (fun i p h => by cases h) (fun i p h => by cases h)
section
variable {H : Type} {enc : TypeId × Value → H} {w : World} {held : Bool}
theorem parts_of (B : Nat) (hB : B ≤ 2147483648) : ∀ {n : Nat} {v : Value} {x : DataW H × List MemPlace}, DataW.trod enc Tryz.prog w 0 (fun _ => true) held n 22 [v] = some x → Wt 22 x.1 → Rows.uptoBulk x.1 ≤ B → ∃ ps, PartsMem w v ps := by
  intro n
  induction n using Nat.strongRecOn with
  | ind n ih =>
    intro v x h hz hbk
    rcases open_cells Tryz.underlying22 cells38 (by decide) bytes38 h hz with rfl | ⟨a, len, cap, k, hnk, rfl, h2, h3, h4, h5⟩
    · exact ⟨[], PartsMem.nilv w⟩
    rcases Nat.eq_zero_or_pos len with h0 | h0
    · subst h0
      exact ⟨[], .mk a cap [] (fun _ => .nilFunc) (fun _ => .nilFunc) (fun _ => .nilFunc) (fun _ => .nilFunc) 0 0 h2 h3 (fun h => absurd h (by simp)) (fun i p h => by cases h) (fun i p h => by cases h)⟩
    obtain ⟨b, off, rfl, hc⟩ := h5 h0
    have each : ∀ i, i < len → ∃ d : PT × Value × Value × Value × Value, w.cell? ⟨b, off + i * 5, none⟩ = some (.string d.1.kind) ∧ w.cell? ⟨b, off + i * 5 + 1, none⟩ = some d.2.1 ∧ w.cell? ⟨b, off + i * 5 + 2, none⟩ = some d.2.2.1 ∧ w.cell? ⟨b, off + i * 5 + 3, none⟩ = some d.2.2.2.1 ∧ w.cell? ⟨b, off + i * 5 + 4, none⟩ = some d.2.2.2.2 ∧ PMem w d.1 d.2.1 d.2.2.1 d.2.2.2.1 ∧ PartsMem w d.2.2.2.2 d.1.parts := by
      intro i hi
      obtain ⟨cs, y, g1, g2, g3, gz, g4⟩ := hc i hi
      match cs, g1 with
      | [u0, u1, u2, u3, u4], _ =>
        obtain ⟨k2, z, hk2, hzf⟩ := open_fields Tryz.underlying38 g3 gz
        obtain ⟨z0, y0, b0⟩ := hzf 0 { name := "Kind", type := 9, offset := 0, embedded := false, tag := "", pkgPath := "", byteOffset := 0 } rfl
        obtain ⟨z1, y1, b1⟩ := hzf 1 { name := "Name", type := 24, offset := 1, embedded := false, tag := "", pkgPath := "", byteOffset := 16 } rfl
        obtain ⟨z2, y2, b2⟩ := hzf 2 { name := "Words", type := 36, offset := 2, embedded := false, tag := "", pkgPath := "", byteOffset := 40 } rfl
        obtain ⟨z3, y3, b3⟩ := hzf 3 { name := "Decls", type := 31, offset := 3, embedded := false, tag := "", pkgPath := "", byteOffset := 64 } rfl
        obtain ⟨z4, y4, b4⟩ := hzf 4 { name := "Parts", type := 22, offset := 4, embedded := false, tag := "", pkgPath := "", byteOffset := 88 } rfl
        simp only [cells9, cells24, cells36, cells31, cells22, List.drop_zero, List.drop_succ_cons, List.take_succ_cons, List.take_zero] at z0 z1 z2 z3 z4
        obtain ⟨s, hs, _, _⟩ := DataW.trod_string Tryz.underlying9 z0
        obtain rfl : u0 = .string s := by simpa using hs
        obtain ⟨l, hl, hlb⟩ := sl_of z1 y1
        obtain ⟨ws, hw, hwb⟩ := words_of z2 y2
        obtain ⟨ds, hd, hdb⟩ := decls_of z3 y3
        obtain ⟨qs, hq⟩ := ih k2 (by omega) z4 y4 (Nat.le_trans (Nat.le_trans b4 g4) hbk)
        refine ⟨(.mk s l ws ds qs, u1, u2, u3, u4), g2 0 (by decide), g2 1 (by decide), g2 2 (by decide), g2 3 (by decide), g2 4 (by decide), ⟨hl, hw, hd, ?_, fun y hy => ?_, fun d hdm y hy => ?_⟩, hq⟩
        · exact Nat.le_trans hlb (Nat.le_trans b1 (Nat.le_trans g4 (Nat.le_trans hbk hB)))
        · exact Nat.le_trans (hwb y hy) (Nat.le_trans b2 (Nat.le_trans g4 (Nat.le_trans hbk hB)))
        · exact Nat.le_trans (hdb d hdm y hy) (Nat.le_trans b3 (Nat.le_trans g4 (Nat.le_trans hbk hB)))
    obtain ⟨f, hf⟩ := choose_lt each
    have hlen : ((List.range len).map fun i => (f i).1).length = len := by simp
    have hget : ∀ i p, ((List.range len).map fun i => (f i).1)[i]? = some p → i < len ∧ p = (f i).1 := by
      intro i p hp
      have hi : i < len := by
        have := (List.getElem?_eq_some_iff.1 hp).1
        simpa using this
      rw [List.getElem?_map, List.getElem?_range hi] at hp
      exact ⟨hi, (Option.some.inj hp).symm⟩
    refine ⟨(List.range len).map fun i => (f i).1, ?_⟩
    have hmk := PartsMem.mk (w := w) (some ⟨b, off, none⟩) cap ((List.range len).map fun i => (f i).1) (fun i => (f i).2.1) (fun i => (f i).2.2.1) (fun i => (f i).2.2.2.1) (fun i => (f i).2.2.2.2) b off (by rw [hlen]; exact h2) h3 (fun _ => rfl) (fun i p hp => by
      obtain ⟨hi, rfl⟩ := hget i p hp
      obtain ⟨k0, k1, k2, k3, k4, k5, _⟩ := hf i hi
      exact ⟨k0, k1, k2, k3, k4, k5⟩) (fun i p hp => by
      obtain ⟨hi, rfl⟩ := hget i p hp
      exact (hf i hi).2.2.2.2.2.2)
    rw [hlen] at hmk
    exact hmk
end
end Go.Proofs.YtlglijnaeaonpaaGreatDoor.Css
/- 'laws.FnRules', walked whole. -/
namespace Go.Proofs.YtlglijnaeaonpaaGreatDoor.Css
open Go.RowKit

set_option maxRecDepth 100000 in
set_option maxHeartbeats 4000000 in
theorem rulesFn_any (w : World) (v : Value) (ps : List PT) (st : Int) (eof : Addr) (h : PartsMem w v ps) (hU : Utab w) (hT : HTab w) (hio : w.cell? ⟨0, 0, none⟩ = some (.iface 198 (.pointer (some eof)))) :
    Calls Tryz.prog 3 #[v, .int .i64 st] w (StyPost w) := by
  obtain ⟨a, c, hv, hc1, hc2⟩ := h.shape
  have hB1 : 1 < w.heap.size := World.block_lt_of_cell? w ⟨1, 0, none⟩ hT.c0
  have HM := Lib.hid (show _ ∧ _ ∧ _ ∧ _ from ⟨h, hU, hT, hio⟩)
  have hpm : Calls Tryz.prog 5 #[v, .int .i64 3] w (BPost w (PartsOK 3 ps)) := areParts_any 3 (by decide) w v ps h hU
  subst hv
  clear h hU hT hio
  have hrf := Below.refl w.heap.size w
  go_enter Tryz.func3, Tryz.ntmps3
  by_cases hl : 2147483647 < ps.length
  · have d0 : decide (2147483647 < ps.length) = true := decide_eq_true hl
    have d0' : decide ((2147483647 : Int) < (ps.length : Int)) = true := decide_eq_true (by omega)
    clear hl hpm
    go_wp2
    go_ret
    exact ⟨rfl, hrf⟩
  have d0 : decide (2147483647 < ps.length) = false := decide_eq_false hl
  have d0' : decide ((2147483647 : Int) < (ps.length : Int)) = false := decide_eq_false (by omega)
  clear hl
  go_upto_region 3 with fail
  by_cases hlo : st < 0
  · have d1 : decide (st < 0) = true := decide_eq_true hlo
    clear hlo hpm
    go_wp2
    go_ret
    exact ⟨rfl, hrf⟩
  by_cases hhi : 2 < st
  · have d1 : decide (st < 0) = false := decide_eq_false hlo
    have d2 : decide (2 < st) = true := decide_eq_true hhi
    clear hlo hhi hpm
    go_wp2
    go_ret
    exact ⟨rfl, hrf⟩
  have d1 : decide (st < 0) = false := decide_eq_false hlo
  have d2 : decide (2 < st) = false := decide_eq_false hhi
  have hst : st = 0 ∨ st = 1 ∨ st = 2 := by omega
  have HST := Lib.hid hst
  clear hlo hhi hst hrf
  go_cut [21] (fun s wx => ∃ r : Bool, s = .bool r ∧ Below w.heap.size w wx ∧ (r = false → PartsOK 3 ps))
  case first =>
    go_wp2_with (go_at_call 5; (with_reducible refine hpm.mono ?_); rintro e w1 ⟨r, rfl, hb1, hr1⟩; have HR := Lib.hid hr1; clear hr1)
    go_meet
    exact ⟨_, rfl, hb1, fun hr => HR.out (by simpa using hr)⟩
  case rest =>
  obtain ⟨r, rfl, hbb, hr⟩ := hcut
  clear hpm
  cases r with
  | true =>
    clear hr
    go_wp2
    go_ret
    exact ⟨rfl, hbb⟩
  | false =>
  have hok := hr rfl
  clear hr d0 d0' d1 d2
  have HOK := Lib.hid hok
  have HB1 := Lib.hid hB1
  have htx := text_any st HST.out 3 (by decide) wc _ ps (HM.out.1.goOn hbb) hok
  have hpi := fun w2 (hb : Below w.heap.size w w2) => pieces_any 3 (by decide) w w2 hb _ ps HM.out.1 HOK.out HM.out.2.1
  have HPI := Lib.hid hpi
  clear hok hpi hB1
  by_cases hlen : 20000 < (ptext st 3 ps).length
  · have d0 : decide (20000 < (ptext st 3 ps).length) = true := decide_eq_true hlen
    have d0' : decide ((20000 : Int) < ((ptext st 3 ps).length : Int)) = true := decide_eq_true (by omega)
    clear hlen
    go_wp2_with (go_at_call 6; (with_reducible refine htx.mono ?_); rintro e w2 ⟨tv, rfl, hT⟩; obtain ⟨tg, tc, rfl, _, _, _⟩ := hT.lies; have hbc := hbb.trans (hT.bel.mono hbb.size); clear hT htx)
    go_ret
    exact ⟨rfl, hbc⟩
  have d0 : decide (20000 < (ptext st 3 ps).length) = false := decide_eq_false hlen
  have d0' : decide ((20000 : Int) < ((ptext st 3 ps).length : Int)) = false := decide_eq_false (by omega)
  have hlen2 : (ptext st 3 ps).length ≤ 20000 := by omega
  have hru := fun (w3 : World) (tv : Value) (hb : Below w.heap.size w w3) (hS : Slb w3 tv (ptext st 3 ps)) =>
    rules_rel false r1 [39] newSheet_any w3 tv (ptext st 3 ps) eof hS (by omega) (noBs_ptext st 3 ps HOK.out)
      ((hb.cell (p := ⟨0, 0, none⟩) (Nat.lt_trans (Nat.zero_lt_one) HB1.out)).trans HM.out.2.2.2) (Agree (ppieces 3 ps)) (fun X pp sv hX => sheet_plain st ps HOK.out hlen2 w3.heap.size w3 (HM.out.2.2.1.below HB1.out hb) (Nat.lt_of_lt_of_le HB1.out hb.size) X pp sv hX)
  have HRU := Lib.hid hru
  clear hru hlen hlen2
  go_upto_region 9 with (first | (go_at_call 6; (with_reducible refine htx.mono ?_); rintro e w2 ⟨tv, rfl, hT⟩; have hsl := (hT.t.slp (B' := 0)).slb; have hbc := hbb.trans (hT.bel.mono hbb.size); have hru := HRU.out w2 tv hbc hsl; obtain ⟨tg, tc, rfl, _, _, _⟩ := hT.lies; clear hT htx hsl) | (go_at_call 7; (with_reducible refine hru.mono ?_); rintro e w3 ⟨qs, hag, out, rfl, hO⟩; obtain ⟨oa, on, oc, rfl⟩ := hO.shape; clear hru))
  have hbd := hbc.trans (hO.bel.mono hbc.size)
  have hpi := HPI.out _ hbd
  have HO := Lib.hid (show _ ∧ _ ∧ _ from ⟨hO.mem, hbd, hag⟩)
  clear hO hbd hbc hbb hag
  go_wp2_with (first | (go_at_call 9; (with_reducible refine hpi.mono ?_); rintro e w4 ⟨pv, rfl, hP⟩; have hb4 := hP.bel; have hsp := sameParts_any w4 _ _ _ _ (HO.out.1.below hb4) hP.mem HO.out.2.2.1 HO.out.2.2.2; have hbe := HO.out.2.1.trans (hb4.mono HO.out.2.1.size); obtain ⟨pa, pn, pc, rfl⟩ := hP.shape; clear hpi hP hb4) | (go_at_call 8; (with_reducible refine hsp.mono ?_); rintro e w5 ⟨rfl, hb5⟩; have hbf := hbe.trans (hb5.mono hbe.size); clear hsp hbe hb5))
  go_ret
  exact ⟨rfl, hbf⟩
end Go.Proofs.YtlglijnaeaonpaaGreatDoor.Css
