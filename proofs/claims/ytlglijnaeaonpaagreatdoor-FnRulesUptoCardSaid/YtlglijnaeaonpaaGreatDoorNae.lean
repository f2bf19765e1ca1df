/- The end of a rule's list behind its last declaration; the end of the list of an at-rule. -/
import Derived.Test.YtlglijnaeaonpaaGreatDoorMi
set_option linter.all false
/- The end of a rule's list behind its last declaration; the end of the list of an at-rule. -/
namespace Go.Proofs.YtlglijnaeaonpaaGreatDoor.Css
open Go.RowKit

section
variable (X : Lx) (pp B : Nat) (w : World) (p : Nat) (r : PR) (toks : List Tok) (fns : List Nat) (h : PAt X pp B w p r toks fns)
include h
set_option maxRecDepth 100000 in
set_option maxHeartbeats 2000000 in
theorem next_pe79 (hpe : r.pe = true) (hfn : fns.getLast? = some 79) (gt : Int) (C : World → Nat → PR → List Tok → List Nat → Prop)
    (hcd : ∀ w p r t f n, C w p r t f → C (w.drewN n) p r t f)
    (hcall : ∀ w1 g0, PAt X pp B w1 p { r with pe := false, tt := 31, data := .slice (some ⟨g0, 0, none⟩) 1 1 } toks fns → (Tok.mk 31 g0 0 1 [125]).Ok w1 → Adv B w w1 → Calls Tryz.prog 79 #[.pointer (some ⟨pp, 0, none⟩)] w1 (SP X pp B w1 gt C)) :
    Calls Tryz.prog 21 #[.pointer (some ⟨pp, 0, none⟩)] w (NP X pp B w gt C) := by
  have k2 := h.f2
  have k10 := h.f10
  have kff := h.ff
  rw [hpe] at k10
  obtain ⟨hP1, hA1⟩ := h.set 2 (.string ⟨#[]⟩) r rfl h.buf h.stk
  have HCD := Lib.hid hcd
  have HCALL := Lib.hid hcall
  have HFN := Lib.hid hfn
  clear hcd hcall hfn hpe
  go_enter Tryz.func21, Tryz.ntmps21
  go_upto_if 12 with fail
  go_cut [] from 13 to 33 (fun wc => ∃ g0, PAt X pp B wc p { r with pe := false, tt := 31, data := .slice (some ⟨g0, 0, none⟩) 1 1 } toks fns ∧ (Tok.mk 31 g0 0 1 [125]).Ok wc ∧ Adv B w wc)
  case first =>
    go_upto_region 99 with (go_at_call 43; (with_reducible refine (end_bytes _).mono ?_); rintro e w1 ⟨g0, rfl, hok, hb⟩; have hP2 := hP1.below hb; have hA2 := hA1.trans (Adv.ofBelow hb hP1.hB); have m7 := hP2.f7; have m6 := hP2.f6; have m10 := hP2.f10; have mff := hP2.ff)
    obtain ⟨hP3, hA3⟩ := hP2.set 7 (.int .u32 31) { r with tt := 31 } rfl hP2.buf hP2.stk
    obtain ⟨hP4, hA4⟩ := hP3.set 6 (.slice (some ⟨g0, 0, none⟩) 1 1) { r with tt := 31, data := .slice (some ⟨g0, 0, none⟩) 1 1 } rfl hP3.buf hP3.stk
    obtain ⟨hP5, hA5⟩ := hP4.set 10 (.bool false) { r with pe := false, tt := 31, data := .slice (some ⟨g0, 0, none⟩) 1 1 } rfl hP4.buf hP4.stk
    go_meet
    exact ⟨g0, hP5, (hok 31).adv ((hA3.trans hA4).trans hA5), ((hA2.trans hA3).trans hA4).trans hA5⟩
  case rest =>
  obtain ⟨g0, hP, hSb, hA⟩ := hcut
  obtain ⟨g, off, cap, hv, hn, hm⟩ := hP.stk.shape (by
    have := HFN.out
    cases fns with
    | nil => cases this
    | cons _ _ => exact Nat.succ_pos _)
  have hstk := hP.stk
  rw [hv] at hstk
  obtain ⟨hn2, hn0, hcell⟩ := hstk.top 79 HFN.out
  have k1 := hP.f1
  rw [hv] at k1
  unfold maxLen at hm
  obtain ⟨n, hnn⟩ : ∃ n, n = fns.length := ⟨_, rfl⟩
  rw [← hnn] at k1 hn hn0 hcell
  have s1 : IntKind.i64.wrap ((n : Int) - 1) = (n : Int) - 1 := IntWalk.i64_in _ (by omega)
  have s2 : (0 : Int) ≤ (n : Int) - 1 := by omega
  have s3 : (n : Int) - 1 < (n : Int) := by omega
  have s4 : ((n : Int) - 1).toNat = n - 1 := by omega
  have s5 : (1 : Int) ≤ (n : Int) := by omega
  have s6 : 1 ≤ n := hn0
  simp only [fnVal] at hcell
  clear hnn hv hn2 hstk hP1 hA1 k2 k10 kff
  go_upto_region 6 with fail
  go_cut [5] from 34 to 47 (fun s wx => s = .int .u32 gt ∧ ∃ (p' : Nat) (r' : PR) (toks' : List Tok) (fns' : List Nat), PAt X pp B wx p' r' toks' fns' ∧ Adv B w wx ∧ C wx p' r' toks' fns')
  case first =>
    go_still_tail 13, (by kernel_rfl)
    change wpList _ _ _ _ _ wc.drew
    have hPd := hP.drew
    have hAd := hA.drew
    obtain ⟨w2, hw2⟩ : ∃ w2, w2 = wc.drew := ⟨_, rfl⟩
    have hSd : (Tok.mk 31 g0 0 1 [125]).Ok wc.drew := hSb
    rw [← hw2] at hPd hAd hSd ⊢
    clear hw2
    go_wp2_with (go_at_call 79; (with_reducible refine (HCALL.out _ g0 hPd hSd hAd).mono ?_); rintro e w3 ⟨rfl, p', r', toks', fns', hP3, hA3, hC3⟩)
    go_meet
    exact ⟨rfl, p', r', toks', fns', hP3, hAd.trans hA3, hC3⟩
  case rest =>
  obtain ⟨rfl, p', r', toks', fns', hP4, hA4, hC4⟩ := hcut
  have k7 := hP4.f7
  have k6 := hP4.f6
  have HC4 := Lib.hid hC4
  clear hC4 hcell k1
  go_wp2
  go_quiet (fail)
  go_wp2
  go_ret3
  exact ⟨p', r', toks', fns', rfl, hP4.drewN _, hA4.drewN _, HCD.out _ _ _ _ _ _ HC4.out⟩

set_option maxRecDepth 100000 in
set_option maxHeartbeats 1000000 in
theorem rlist_end (hnt : r.tt = 31) (h0 : 0 < fns.length) :
    Calls Tryz.prog 75 #[.pointer (some ⟨pp, 0, none⟩)] w (PopPost 4 X pp B w p r toks fns) := by
  have k7 := h.f7
  rw [hnt] at k7
  obtain ⟨g, off, cap, hv, hn, hm⟩ := h.stk.shape h0
  have k1 := h.f1
  have kff := h.ff
  rw [hv] at k1
  unfold maxLen at hm
  obtain ⟨n, hnn⟩ : ∃ n, n = fns.length := ⟨_, rfl⟩
  rw [← hnn] at k1 hn h0
  have hstk := Stk.pop (hv ▸ h.stk) rfl
  rw [← hnn] at hstk
  obtain ⟨hP, hA⟩ := h.set 1 (.slice (some ⟨g, off, none⟩) (n - 1) cap) { r with state := .slice (some ⟨g, off, none⟩) (n - 1) cap } rfl h.buf hstk
  clear hnn hv hnt hstk
  have s1 : IntKind.i64.wrap ((n : Int) - 1) = (n : Int) - 1 := IntWalk.i64_in _ (by omega)
  have s2 : (0 : Int) ≤ (n : Int) - 1 := by omega
  have s3 : (n : Int) - 1 ≤ (cap : Int) := by omega
  have s4 : ((n : Int) - 1).toNat = n - 1 := by omega
  have s5 : 1 ≤ n := by omega
  go_enter Tryz.func75, Tryz.ntmps75
  go_wp2
  go_region
  all_goals (go_wp2; go_ret; exact ⟨rfl, _, hP.drew, hA.drew⟩)
end
end Go.Proofs.YtlglijnaeaonpaaGreatDoor.Css
/- A state is laid on the parser's stack. -/
namespace Go.Proofs.YtlglijnaeaonpaaGreatDoor.Css
open Go.RowKit

theorem Own.any {w : World} {B : Nat} {e : TypeId} {sz : Nat} {v : Value} {n : Nat} {cs : List Value} (h : Own w B e sz v n cs) : ∃ a m c, v = .slice a m c := by
  rcases h.2 with ⟨h1, _⟩ | ⟨g, off, cap, cur, h1, _⟩
  · exact ⟨_, _, _, h1⟩
  · exact ⟨_, _, _, h1⟩
theorem new_cellR (w : World) (u : Value) (t : TypeId) : (w.alloc (.cells #[u] t)).cell? ⟨w.heap.size, 0, none⟩ = some u := by
  rw [cell_at (alloc_new _ _)]; rfl
theorem PAt.pushState {X : Lx} {pp B : Nat} {w w1 : World} {p : Nat} {r : PR} {toks : List Tok} {fns : List Nat} (h : PAt X pp B w p r toks fns) {v' : Value} {fn : Nat} (hg : w.grownBy w1 r.state.ownBlock) (ho : Own w1 B 88 1 v' (fns.length + 1) (fns.map fnVal ++ [fnVal fn])) :
    PAt X pp B (w1.setCell ⟨pp, 1, none⟩ v') p { r with state := v' } toks (fns ++ [fn]) ∧ Adv B w (w1.setCell ⟨pp, 1, none⟩ v') ∧ w1.heap[pp]? = some (.cells (r.cells X) 80 (0, 0)) := by
  have hne : ∀ (k : Nat) (c : Array Value) (t : TypeId) (f : Nat × Nat), w.heap[k]? = some (Obj.cells c t f) → t ≠ 88 → w1.heap[k]? = w.heap[k]? := by
    intro k c t f hk ht
    refine hg.block k (Array.getElem?_eq_some_iff.1 hk).1 (fun e => ?_)
    obtain ⟨_, _, cs, h1⟩ := Own.lt h.stk k e.symm
    exact ht (ty_eq hk h1)
  have ha1 : Adv B w w1 := (Adv.refl B w).grown hg h.hB fun k hk => by
    obtain ⟨h0, _, cs, h1⟩ := Own.lt h.stk k hk
    exact ⟨h0, cs, _, _, h1, by decide⟩
  have hpar1 : w1.heap[pp]? = some (.cells (r.cells X) 80 (0, 0)) := (hne _ _ _ _ h.par (by decide)).trans h.par
  have ha2 : Adv B w1 (w1.setCell ⟨pp, 1, none⟩ v') := (Adv.refl B w1).setCell hpar1 (by decide) h.bp v'
  have ha := ha1.trans ha2
  have hbl : ∀ k, k ≠ pp → (w1.setCell ⟨pp, 1, none⟩ v').heap[k]? = w1.heap[k]? := fun k hk => Below.heap_setCell _ _ _ _ hk
  have hlex := ((hbl _ (Ne.symm h.toPB.npl)).trans (hne _ _ _ _ h.lx.lex (by decide))).trans h.lx.lex
  have hinp := ((hbl _ (Ne.symm h.toPB.npg)).trans (hne _ _ _ _ h.lx.inp (by decide))).trans h.lx.inp
  refine ⟨⟨⟨⟨hlex, hinp, fun i hi => ?_, ?_, h.lx.nb, h.lx.nl, h.lx.n0, (Array.getElem?_eq_some_iff.1 hinp).1, h.lx.pl, h.lx.sp, h.lx.cp, h.lx.big, Keep.refl _ _⟩, ?_, ?_, h.bl, h.bg, h.bb, h.bp, h.b0, h.nobs, ?_⟩, ?_, fun k hk => (h.buf.2 k hk).adv ha⟩, ha, hpar1⟩
  · obtain ⟨cs, f, h1⟩ := h.tb
    rw [cell_at (ha.u8 _ _ _ h1), ← cell_at h1]; exact h.lx.txt i hi
  · rw [ha.below.cell (p := ⟨0, 0, none⟩) h.b0]; exact h.lx.io
  · obtain ⟨cs, f, h1⟩ := h.tb; exact ⟨cs, f, ha.u8 _ _ _ h1⟩
  · rw [heap_set hpar1]; rfl
  · have h2 : Own w1 B 88 1 v' (fns ++ [fn]).length ((fns ++ [fn]).map fnVal) := by
      rw [List.length_append, List.map_append]; exact ho
    refine Own.keep h2 fun k hk => hbl k ?_
    rintro rfl
    obtain ⟨_, _, cur, hc⟩ := Own.lt h2 _ hk
    exact absurd (ty_eq hpar1 hc) (by decide)
  · refine h.buf.1.keep fun k hk => ?_
    obtain ⟨_, _, cur, hc⟩ := h.buf.1.lt k hk
    exact (hbl k (h.nbuf hk).1).trans (hne _ _ _ _ hc (by decide))
end Go.Proofs.YtlglijnaeaonpaaGreatDoor.Css
/- A rule's beginning: its selector is read. -/
namespace Go.Proofs.YtlglijnaeaonpaaGreatDoor.Css
open Go.RowKit

/-- What a rule's beginning leaves. -/
def QSelPost (X : Lx) (pp B : Nat) (w : World) (r : PR) (fns : List Nat) (vals : List Tok) (e qE : Nat) (x : Ending) (w' : World) : Prop :=
  x = .returned (.int .u32 6) ∧ ∃ (bufv sv dv : Value) (out : List Tok), Slb w' dv [] ∧ out.filter nb = vals ∧
    PAt X pp B w' qE { r with buf := bufv, state := sv, level := 0, pw := isWS (byte X.t e), pc := false, tt := 20, data := dv } out (fns ++ [79]) ∧ Adv B w w'
/-- The loop's state: a token is to be looked at, or the brace. -/
def QSelTok (X : Lx) (pp B : Nat) (w : World) (r : PR) (fns : List Nat) (vals : List Tok) (e qE : Nat) (k : Nat) (tt : Int) (dv : Value) (wr : World) : Prop :=
  (tt = 30 ∧ ∃ bl v d0, PAt X pp B wr qE { r with buf := v, level := 0, pw := isWS (byte X.t e), pc := false, tt := 20, data := d0 } bl fns ∧ Adv B w wr ∧ Slb wr d0 [] ∧ bl.filter nb = vals) ∨
  (∃ p1 q l2 lv lv2 bl v d0 pw' pc', dv = (X.tok tt p1 q).val ∧ p1 < q ∧ Lv lv tt lv2 ∧ Bal lv2 l2 ∧ Toks X q l2 e ∧ k = l2.length + 1 ∧ tt ≠ 20 ∧ bl.filter nb ++ X.tok tt p1 q :: X.toks l2 = vals ∧
    PAt X pp B wr q { r with buf := v, level := (lv : Nat), pw := pw', pc := pc', tt := 20, data := d0 } bl fns ∧ Adv B w wr ∧ Slb wr d0 [] ∧ bl.length ≤ 2 * p1 ∧ lv ≤ p1)
/-- The loop's state at its head. -/
def QSelRel (X : Lx) (pp B : Nat) (w : World) (r : PR) (fns : List Nat) (vals : List Tok) (e : Nat) (k : Nat) (fi : Bool) (wr : World) : Prop :=
  (fi = true ∧ ∃ p1 p l lv2 v, r.data = (X.tok r.tt p1 p).val ∧ p1 < p ∧ Lv 0 r.tt lv2 ∧ Bal lv2 l ∧ Toks X p l e ∧ k = l.length + 1 ∧ r.tt ≠ 20 ∧ X.tok r.tt p1 p :: X.toks l = vals ∧ PAt X pp B wr p { r with buf := v } [] fns ∧ Adv B w wr) ∨
  (fi = false ∧ ∃ p' l' lv bl v d0 pw' pc', Bal lv l' ∧ Toks X p' l' e ∧ k = l'.length ∧ bl.filter nb ++ X.toks l' = vals ∧
    PAt X pp B wr p' { r with buf := v, level := (lv : Nat), pw := pw', pc := pc', tt := 20, data := d0 } bl fns ∧ Adv B w wr ∧ Slb wr d0 [] ∧ bl.length ≤ 2 * p' ∧ lv ≤ p')
theorem Slb.nil_any {w w' : World} {v : Value} (h : Slb w v []) : Slb w' v [] := by
  obtain ⟨a, cap, h1, _⟩ := h
  exact ⟨a, cap, h1, fun h => absurd h (by simp)⟩
theorem Lv.split {d d' : Nat} {tt : Int} (h : Lv d tt d') {L L2 : Int} (hL : L = d) (hL2 : L2 = d') : ((tt = 28 ∨ tt = 26 ∨ tt = 2) ∧ L2 = L + 1) ∨ ((tt = 29 ∨ tt = 27) ∧ L = L2 + 1 ∧ 0 ≤ L2) ∨ ((tt == 28) = false ∧ (tt == 26) = false ∧ (tt == 2) = false ∧ (tt == 29) = false ∧ (tt == 27) = false ∧ L2 = L) := by
  cases h with
  | op d tt a => exact .inl ⟨a, by omega⟩
  | cl d tt a => exact .inr (.inl ⟨a, by omega, by omega⟩)
  | no d tt a1 a2 a3 a4 a5 a6 a7 a8 a9 => exact .inr (.inr ⟨a1, a2, a3, a4, a5, by omega⟩)

section
variable (X : Lx) (pp B : Nat) (w : World) (p : Nat) (r : PR) (toks : List Tok) (fns : List Nat) (h : PAt X pp B w p r toks fns)
include h
set_option maxRecDepth 100000 in
set_option maxHeartbeats 2000000 in
theorem qrule_any (p1 : Nat) (hp1 : p1 < p) (hnd : r.data = (X.tok r.tt p1 p).val) (h20 : r.tt ≠ 20) (hlv : r.level = 0) (l : List (Int × Nat × Nat)) (e : Nat) (hl : Toks X p l e) (lv2 : Nat) (hlv2 : Lv 0 r.tt lv2) (hbal : Bal lv2 l)
    (vE : Value) (qE : Nat) (hE : Pop X e 30 vE qE) (hbig : X.t.length ≤ 200000) (hfl : fns.length ≤ 1000) :
    Calls Tryz.prog 62 #[.pointer (some ⟨pp, 0, none⟩)] w (QSelPost X pp B w r fns (X.tok r.tt p1 p :: X.toks l) e qE) := by
  obtain ⟨vals, hvals⟩ : ∃ vals, vals = X.tok r.tt p1 p :: X.toks l := ⟨_, rfl⟩
  rw [← hvals]
  have hb := initBuf_any X pp B w p r toks fns h
  have HE := Lib.hid hE
  have HIN := Lib.hid (show _ ∧ _ ∧ _ ∧ _ ∧ _ ∧ _ from ⟨hnd, hp1, hlv2, hbal, hl, h20⟩)
  have HV := Lib.hid hvals
  have HLV0 := Lib.hid hlv
  have HBIG := Lib.hid hbig
  have HFL := Lib.hid hfl
  clear hnd hp1 hlv2 hbal hl h20 hvals hE hlv hbig hfl
  go_enter Tryz.func62, Tryz.ntmps62
  go_wp2_with (first | (go_at_call 57; (with_reducible refine hb.mono ?_); rintro e w1 ⟨rfl, v1, hP, hA⟩))
  clear hb
  refine wp_loop_ghost_k (fun k a wr => ∃ (fi ins skip : Bool) (f : Nat → Value), QSelRel X pp B w r fns vals e k fi wr ∧ a = (⟨#[.pointer (some ⟨pp, 0, none⟩), f 1, .int .u32 0, .bool fi, .bool ins, .bool skip, f 6, f 7, f 8, f 9, f 10, f 11, f 12, f 13, f 14, f 15, f 16, f 17, f 18, f 19, f 20, f 21, f 22, f 23, f 24, f 25, f 26, f 27, f 28, f 29, f 30, f 31, f 32, f 33, f 34, f 35, f 36, f 37, f 38, f 39, f 40, f 41, f 42, f 43, f 44, f 45, f 46, f 47, f 48, f 49, f 50, f 51, f 52, f 53, f 54, f 55, f 56, f 57, f 58, f 59, f 60, f 61, f 62, f 63, f 64, f 65, f 66, f 67, f 68, f 69, f 70, f 71, f 72, f 73, f 74, f 75, f 76, f 77, f 78, f 79, f 80, f 81, f 82, f 83, f 84, f 85, f 86, f 87, f 88, f 89, f 90, f 91, f 92, f 93, f 94, f 95, f 96, f 97, f 98, f 99, f 100, f 101, f 102, f 103, f 104, f 105, f 106, f 107, f 108, f 109, f 110, f 111, f 112, f 113, f 114, f 115, f 116, f 117, f 118, f 119, f 120, f 121, f 122, f 123, f 124, f 125, f 126, f 127, f 128, f 129, f 130, f 131, f 132, f 133, f 134, f 135, f 136, f 137, f 138, f 139, f 140, f 141, f 142, f 143, f 144, f 145, f 146, f 147, f 148, f 149, f 150, f 151, f 152, f 153, f 154, f 155, f 156, f 157, f 158, f 159, f 160, f 161, f 162, f 163, f 164, f 165, f 166, f 167, f 168, f 169, f 170, f 171, f 172, f 173, f 174, f 175, f 176, f 177, f 178, f 179, f 180, f 181, f 182, f 183, f 184, f 185, f 186, f 187, f 188, f 189, f 190, f 191, f 192, f 193, f 194, f 195], []⟩ : Act)) (l.length + 1) ?_ ?_
  · refine ⟨true, false, true, frm_exists ?_ (by kernel_rfl)⟩
    obtain ⟨hnd, hp1, hlv2, hbal, hl, h20⟩ := HIN.out
    exact .inl ⟨rfl, p1, p, l, lv2, v1, hnd, hp1, hlv2, hbal, hl, rfl, h20, HV.out.symm, hP, hA⟩
  · intro gk _ wr hinv
    obtain ⟨fi, ins, skip, f, hrel, ha⟩ := hinv
    subst ha
    dsimp only
    intro _ _ _ _
    clear hP hA
    go_upto_if 10 with fail
    refine wp_cut (fun a' wc => ∃ (tt : Int) (dv : Value) (f : Nat → Value), QSelTok X pp B w r fns vals e qE gk tt dv wc ∧
      a' = (⟨#[.pointer (some ⟨pp, 0, none⟩), f 1, .int .u32 0, .bool false, .bool ins, .bool skip, .int .u32 tt, dv, f 8, f 9, f 10, f 11, f 12, f 13, f 14, f 15, f 16, f 17, f 18, f 19, f 20, f 21, f 22, f 23, f 24, f 25, f 26, f 27, f 28, f 29, f 30, f 31, f 32, f 33, f 34, f 35, f 36, f 37, f 38, f 39, f 40, f 41, f 42, f 43, f 44, f 45, f 46, f 47, f 48, f 49, f 50, f 51, f 52, f 53, f 54, f 55, f 56, f 57, f 58, f 59, f 60, f 61, f 62, f 63, f 64, f 65, f 66, f 67, f 68, f 69, f 70, f 71, f 72, f 73, f 74, f 75, f 76, f 77, f 78, f 79, f 80, f 81, f 82, f 83, f 84, f 85, f 86, f 87, f 88, f 89, f 90, f 91, f 92, f 93, f 94, f 95, f 96, f 97, f 98, f 99, f 100, f 101, f 102, f 103, f 104, f 105, f 106, f 107, f 108, f 109, f 110, f 111, f 112, f 113, f 114, f 115, f 116, f 117, f 118, f 119, f 120, f 121, f 122, f 123, f 124, f 125, f 126, f 127, f 128, f 129, f 130, f 131, f 132, f 133, f 134, f 135, f 136, f 137, f 138, f 139, f 140, f 141, f 142, f 143, f 144, f 145, f 146, f 147, f 148, f 149, f 150, f 151, f 152, f 153, f 154, f 155, f 156, f 157, f 158, f 159, f 160, f 161, f 162, f 163, f 164, f 165, f 166, f 167, f 168, f 169, f 170, f 171, f 172, f 173, f 174, f 175, f 176, f 177, f 178, f 179, f 180, f 181, f 182, f 183, f 184, f 185, f 186, f 187, f 188, f 189, f 190, f 191, f 192, f 193, f 194, f 195], []⟩ : Act)) ?_ ?_
    rotate_left
    · skip
      intro _ _ _ _
      rcases hrel with ⟨rfl, q1, q, l2, lvx, v, e1, e2, e3, e4, e5, e6, e7, e8, hP, hA⟩ | ⟨rfl, q, l2, lv, bl, v, d0, pw', pc', e1, e2, e3, e4, hP, hA, hS, e5, e6⟩
      · have HX := Lib.hid (show _ ∧ _ ∧ _ ∧ _ ∧ _ ∧ _ ∧ _ ∧ _ from ⟨e1, e2, e3, e4, e5, e6, e7, e8⟩)
        have k7 := hP.f7
        have k6 := hP.f6
        have kff := hP.ff
        simp only at k6 k7
        rw [e1] at k6
        simp only [Tok.val] at k6
        have hs := fun n => (hP.drewN n).set 7 (.int .u32 20) { r with buf := v, tt := 20 } rfl (hP.drewN n).buf (hP.drewN n).stk
        have hAd := fun n => hA.drewN n
        clear e1 e2 e3 e4 e5 e6 e7 e8
        go_upto_region 8 with fail
        go_quiet (fail)
        go_wp2_with (go_at_call 78; (with_reducible refine (empty_bytes _).mono ?_); rintro x w2 ⟨g0, rfl, hok, hb⟩; have hP2 := (hs _).1.below hb; have hA2 := ((hAd _).trans (hs _).2).trans (Adv.ofBelow hb (hs _).1.hB); have m6 := hP2.f6; have mff := hP2.ff; clear hs hAd)
        obtain ⟨hP3, hA3⟩ := hP2.set 6 (.slice (some ⟨g0, 0, none⟩) 0 0) { r with buf := v, tt := 20, data := .slice (some ⟨g0, 0, none⟩) 0 0 } rfl hP2.buf hP2.stk
        obtain ⟨e1, e2, e3, e4, e5, e6, e7, e8⟩ := HX.out
        refine Met.intro ?_
        go_step
        refine ⟨r.tt, (X.tok r.tt q1 q).val, frm_exists (.inr ⟨q1, q, l2, 0, lvx, [], v, .slice (some ⟨g0, 0, none⟩) 0 0, r.pw, r.pc, rfl, e2, e3, e4, e5, e6, e7, e8, ?_, hA2.trans hA3, ⟨_, _, rfl, fun h => absurd h (by simp)⟩, Nat.zero_le _, Nat.zero_le _⟩) (by kernel_rfl)⟩
        have e9 : ({ r with buf := v, tt := 20, data := .slice (some ⟨g0, 0, none⟩) 0 0 } : PR) = { r with buf := v, level := ((0 : Nat) : Int), pw := r.pw, pc := r.pc, tt := 20, data := .slice (some ⟨g0, 0, none⟩) 0 0 } := by rw [show r.level = ((0 : Nat) : Int) from HLV0.out]
        rw [← e9]; exact hP3
      · cases e2 with
        | nil =>
          cases e1
          have hpop := pop_any X pp B wr _ _ _ _ hP false 30 vE qE HE.out
          have HX := Lib.hid (show _ ∧ _ from ⟨e4, hS⟩)
          obtain ⟨va, vn, vc, rfl⟩ : ∃ a n c, vE = .slice a n c := by cases HE.out; exact ⟨_, _, _, rfl⟩
          clear e3 e4 hS
          go_wp2_with (go_at_call 44; (with_reducible refine hpop.mono ?_); rintro x w2 ⟨rfl, hP2, hA2⟩; clear hpop)
          obtain ⟨e4, hS⟩ := HX.out
          refine Met.intro ?_
          go_step
          exact ⟨30, .slice va vn vc, frm_exists (.inl ⟨rfl, bl, v, d0, hP2, hA.trans hA2, hS.nil_any, by simpa [Lx.toks] using e4⟩) (by kernel_rfl)⟩
        | cons _ q1 tt q2 l3 _ hs hT h20 h32 hl2 =>
          cases e1 with
          | cons _ lv3 _ _ hlv3 hbal3 =>
          have hpop := pop_any X pp B wr q _ _ _ hP false tt _ q2 (.tk q1 tt q2 hs hT h20 h32)
          simp only [Tok.val] at hpop
          have HX := Lib.hid (show _ ∧ _ ∧ _ ∧ _ ∧ _ ∧ _ ∧ _ ∧ _ ∧ _ from ⟨e3, e4, e5, e6, hS, hT.gt, hlv3, hbal3, hl2⟩)
          have HQ := Lib.hid (show q ≤ q1 ∧ tt ≠ 20 from ⟨by rw [← hs]; exact spanEnd_ge _ _ _, h20⟩)
          clear e3 e4 e5 e6 hS hs hT h20 h32 hl2 hlv3 hbal3
          go_wp2_with (go_at_call 44; (with_reducible refine hpop.mono ?_); rintro x w2 ⟨rfl, hP2, hA2⟩; clear hpop)
          obtain ⟨e3, e4, e5, e6, hS, hgt, hlv3, hbal3, hl2⟩ := HX.out
          obtain ⟨hq1, h20⟩ := HQ.out
          refine Met.intro ?_
          go_step
          exact ⟨tt, (X.tok tt q1 q2).val, frm_exists (.inr ⟨q1, q2, l3, lv, lv3, bl, v, d0, _, _, rfl, hgt, hlv3, hbal3, hl2, by rw [e3]; rfl, h20, e4, hP2, hA.trans hA2, hS.nil_any, by omega, by omega⟩) (by kernel_rfl)⟩
    intro _ wc hinv
    obtain ⟨tt, dv, f2, hq, ha⟩ := hinv
    subst ha
    dsimp only
    clear hrel
    rcases hq with ⟨rfl, bl, v, d0, hP, hA, hS, hf⟩ | ⟨q1, q, l2, lv, lvx, bl, v, d0, pw', pc', rfl, e2, e3, e4, e5, e6, e7, e8, hP, hA, hS, e9, e10⟩
    · skip
      obtain ⟨i0, hi, hz0, hz1, hz2⟩ := info_parts info88
      have k5 := hP.f5
      have k1 := hP.f1
      have HX := Lib.hid (show _ ∧ _ from ⟨hS, hf⟩)
      obtain ⟨sa, sn, sc, hst⟩ : ∃ a n c, r.state = .slice a n c := by
        rcases (Own.any hP.stk) with ⟨a, n, c, h⟩; exact ⟨a, n, c, h⟩
      dsimp only at k1
      rw [hst] at k1
      clear hS hf
      go_wp2_with (at_builtin; refine wpList_append_Own _ rfl (.tmp 44) (.tmp 45) 78 rfl B 88 i0 .nilFunc 1 8 Tryz.underlying78 hi hz0 hz1 hz2 rfl (by decide) _ fns.length (fns.map fnVal) rfl (by rw [← hst]; exact (hP.alloc _).stk) ⟨wc.heap.size, 0, none⟩ 1 1 [fnVal 79] rfl rfl ?q1 ?q2 (by have := HFL.out; unfold maxLen; omega) (by have := HFL.out; omega) ?q3 ?q4)
      case q1 =>
        intro j u hj
        have hj1 : j < 1 := (List.getElem?_eq_some_iff.1 hj).1
        obtain rfl : j = 0 := by omega
        cases hj
        first | exact new_cellR _ _ _ | rfl
      case q2 => rfl
      case q3 => have := hP.hB; omega
      case q4 =>
        intro v' w5 hown5 hgr
        rw [← hst] at hgr
        obtain ⟨hP5, hA5, hpp⟩ := (hP.alloc _).pushState hgr hown5
        obtain ⟨va, vn, vc, rfl⟩ := Own.any hown5
        have c5 := cell_at (i := 1) hpp
        have f5 := frozen_at hpp 1
        have HZ := Lib.hid (show _ ∧ _ from ⟨hP5, (hA.alloc hP.hB _).trans hA5⟩)
        clear hP5 hA5 hpp hgr hown5
        go_wp2
        go_ret
        obtain ⟨hP5, hA5⟩ := HZ.out
        obtain ⟨hS, hf⟩ := HX.out
        exact ⟨rfl, _, _, d0, bl, hS.nil_any, hf, hP5, hA5⟩
    · skip
      obtain ⟨n24, n31, n30, n0⟩ := e3.facts
      obtain ⟨L, hL⟩ : ∃ L : Int, L = lv := ⟨_, rfl⟩
      obtain ⟨L2, hL2⟩ : ∃ L2 : Int, L2 = lvx := ⟨_, rfl⟩
      rw [← hL] at hP
      have HLV := Lib.hid (e3.split hL hL2)
      have hpl := hP.lx.pl
      have hok : (X.tok tt q1 q).Ok wc := hP.toPB.tok tt hpl
      obtain ⟨tk, htk⟩ : ∃ tk, tk = X.tok tt q1 q := ⟨_, rfl⟩
      rw [← htk] at e8 hok
      have HTK := Lib.hid htk
      have hln : tk.bs.length ≤ tk.cap := hok.1
      have hcp : tk.cap ≤ 200000 := by rw [htk]; show q - q1 ≤ 200000; have := HBIG.out; omega
      obtain ⟨n, hn⟩ : ∃ n, n = tk.bs.length := ⟨_, rfl⟩
      have hdv : (X.tok tt q1 q).val = .slice (some ⟨tk.b, tk.off, none⟩) n tk.cap := by rw [hn, htk]; rfl
      rw [hdv]
      rw [← hn] at hln
      have hLb : 0 ≤ L ∧ L < 1000000 := by have := HBIG.out; omega
      have HBK := Lib.hid (show _ ∧ _ ∧ _ ∧ _ ∧ _ ∧ _ ∧ _ ∧ _ ∧ _ ∧ _ ∧ _ ∧ _ from ⟨e2, e4, e5, e6, e7, e8, e9, e10, hS, hok, hL, hL2⟩)
      have HN := Lib.hid hn
      clear e2 e3 e4 e5 e6 e7 e8 e9 e10 hS hok hL hL2 htk hn hpl hdv
      have k5 := hP.f5
      dsimp only at k5
      go_upto_if 39 with fail
      refine wp_cut (fun a' wd => ∃ f : Nat → Value, (PAt X pp B wd q { r with buf := v, level := L2, pw := pw', pc := pc', tt := 20, data := d0 } bl fns ∧ Adv B w wd) ∧
        a' = (⟨#[.pointer (some ⟨pp, 0, none⟩), f 1, .int .u32 0, .bool false, .bool ins, .bool skip, .int .u32 tt, .slice (some ⟨tk.b, tk.off, none⟩) n tk.cap, f 8, f 9, f 10, f 11, f 12, f 13, f 14, f 15, f 16, f 17, f 18, f 19, f 20, f 21, f 22, f 23, f 24, f 25, f 26, f 27, f 28, f 29, f 30, f 31, f 32, f 33, f 34, f 35, f 36, f 37, f 38, f 39, f 40, f 41, f 42, f 43, f 44, f 45, f 46, f 47, f 48, f 49, f 50, f 51, f 52, f 53, f 54, f 55, f 56, f 57, f 58, f 59, f 60, f 61, f 62, f 63, f 64, f 65, f 66, f 67, f 68, f 69, f 70, f 71, f 72, f 73, f 74, f 75, f 76, f 77, f 78, f 79, f 80, f 81, f 82, f 83, f 84, f 85, f 86, f 87, f 88, f 89, f 90, f 91, f 92, f 93, f 94, f 95, f 96, f 97, f 98, f 99, f 100, f 101, f 102, f 103, f 104, f 105, f 106, f 107, f 108, f 109, f 110, f 111, f 112, f 113, f 114, f 115, f 116, f 117, f 118, f 119, f 120, f 121, f 122, f 123, f 124, f 125, f 126, f 127, f 128, f 129, f 130, f 131, f 132, f 133, f 134, f 135, f 136, f 137, f 138, f 139, f 140, f 141, f 142, f 143, f 144, f 145, f 146, f 147, f 148, f 149, f 150, f 151, f 152, f 153, f 154, f 155, f 156, f 157, f 158, f 159, f 160, f 161, f 162, f 163, f 164, f 165, f 166, f 167, f 168, f 169, f 170, f 171, f 172, f 173, f 174, f 175, f 176, f 177, f 178, f 179, f 180, f 181, f 182, f 183, f 184, f 185, f 186, f 187, f 188, f 189, f 190, f 191, f 192, f 193, f 194, f 195], []⟩ : Act)) ?_ ?_
      rotate_left
      · skip
        intro _ _ _ _
        have kf := hP.ff
        rcases HLV.out with ⟨a, e⟩ | ⟨a, e, e0⟩ | ⟨a1, a2, a3, a4, a5, e⟩
        · have s1 : IntKind.i64.wrap (L + 1) = L2 := by rw [IntWalk.i64_in _ (by omega)]; omega
          obtain ⟨hP2, hA2⟩ := hP.set 5 (.int .i64 L2) { r with buf := v, level := L2, pw := pw', pc := pc', tt := 20, data := d0 } rfl hP.buf hP.stk
          have hA3 := hA.trans hA2
          clear e
          rcases a with rfl | rfl | rfl <;> (go_wp2; refine Met.intro ?_; go_step; exact frm_exists ⟨hP2, hA3⟩ (by kernel_rfl))
        · have s1 : IntKind.i64.wrap (L - 1) = L2 := by rw [IntWalk.i64_in _ (by omega)]; omega
          have s2 : (L == 0) = false := beq_eq_false_iff_ne.2 (by omega)
          obtain ⟨hP2, hA2⟩ := hP.set 5 (.int .i64 L2) { r with buf := v, level := L2, pw := pw', pc := pc', tt := 20, data := d0 } rfl hP.buf hP.stk
          have hA3 := hA.trans hA2
          clear e e0
          rcases a with rfl | rfl <;> (go_wp2; refine Met.intro ?_; go_step; exact frm_exists ⟨hP2, hA3⟩ (by kernel_rfl))
        · subst e
          go_wp2
          refine Met.intro ?_
          go_step
          exact frm_exists ⟨hP, hA⟩ (by kernel_rfl)
      intro _ wd hinv
      obtain ⟨f3, ⟨hP2, hA2⟩, ha⟩ := hinv
      subst ha
      dsimp only
      clear hP hA k5
      go_upto_region 29 with fail
      refine wp_cut (fun a' we => ∃ (b : Bool) (f : Nat → Value), we = wd ∧
        a' = (⟨#[.pointer (some ⟨pp, 0, none⟩), f 1, .int .u32 0, .bool false, .bool ins, .bool skip, .int .u32 tt, .slice (some ⟨tk.b, tk.off, none⟩) n tk.cap, f 8, f 9, f 10, f 11, f 12, f 13, f 14, f 15, f 16, f 17, f 18, f 19, f 20, f 21, f 22, f 23, f 24, f 25, f 26, f 27, f 28, f 29, f 30, f 31, f 32, f 33, f 34, f 35, f 36, f 37, f 38, f 39, f 40, f 41, f 42, f 43, f 44, f 45, f 46, f 47, f 48, f 49, f 50, f 51, f 52, f 53, f 54, f 55, f 56, f 57, f 58, f 59, f 60, f 61, f 62, f 63, f 64, f 65, f 66, f 67, f 68, f 69, f 70, f 71, f 72, f 73, f 74, f 75, f 76, f 77, f 78, f 79, f 80, f 81, f 82, f 83, f 84, f 85, f 86, f 87, f 88, f 89, f 90, f 91, f 92, f 93, f 94, f 95, f 96, f 97, f 98, f 99, f 100, f 101, f 102, f 103, f 104, f 105, f 106, f 107, f 108, f 109, f 110, f 111, f 112, f 113, f 114, f 115, f 116, f 117, f 118, f 119, f 120, f 121, f 122, f 123, f 124, f 125, f 126, f 127, f 128, f 129, f 130, f 131, f 132, f 133, f 134, f 135, f 136, f 137, f 138, f 139, f 140, f 141, f 142, f 143, f 144, f 145, f 146, f 147, f 148, f 149, f 150, f 151, f 152, f 153, f 154, f 155, f 156, f 157, f 158, f 159, f 160, f 161, f 162, f 163, f 164, f 165, f 166, f 167, f 168, f 169, f 170, f 171, .bool b, f 173, f 174, f 175, f 176, f 177, f 178, f 179, f 180, f 181, f 182, f 183, f 184, f 185, f 186, f 187, f 188, f 189, f 190, f 191, f 192, f 193, f 194, f 195], []⟩ : Act)) ?_ ?_
      rotate_left
      · skip
        intro _ _ _ _
        by_cases h1 : n = 1
        · have hok := HBK.out.2.2.2.2.2.2.2.2.2.1
          have hl1 : tk.bs.length = 1 := by rw [← HN.out]; exact h1
          have c0 : wd.cell? ⟨tk.b, tk.off, none⟩ = some (.int .u8 (byte tk.bs 0)) := by
            have h2 : tk.Ok wd := by
              have hpl := hP2.lx.pl
              have hkd : tk = X.tok tt q1 q := HTK.out
              rw [hkd]; exact hP2.toPB.tok tt hpl
            have := h2.lies 0 (by omega)
            rwa [Nat.add_zero] at this
          obtain ⟨c, hc⟩ : ∃ c, c = byte tk.bs 0 := ⟨_, rfl⟩
          rw [← hc] at c0
          clear hok hl1 hc
          subst h1
          cases h44 : (c == 44) with
          | true => go_wp2; refine Met.intro ?_; go_step; exact ⟨true, frm_exists rfl (by kernel_rfl)⟩
          | false =>
          cases h62 : (c == 62) with
          | true => go_wp2; refine Met.intro ?_; go_step; exact ⟨true, frm_exists rfl (by kernel_rfl)⟩
          | false =>
          cases h43 : (c == 43) with
          | true => go_wp2; refine Met.intro ?_; go_step; exact ⟨true, frm_exists rfl (by kernel_rfl)⟩
          | false =>
          cases h126 : (c == 126) with
          | true => go_wp2; refine Met.intro ?_; go_step; exact ⟨true, frm_exists rfl (by kernel_rfl)⟩
          | false => go_wp2; refine Met.intro ?_; go_step; exact ⟨false, frm_exists rfl (by kernel_rfl)⟩
        · have z1 : ((n : Int) == 1) = false := beq_eq_false_iff_ne.2 (by omega)
          have z2 : (n == 1) = false := beq_eq_false_iff_ne.2 h1
          go_wp2; refine Met.intro ?_; go_step; exact ⟨false, frm_exists rfl (by kernel_rfl)⟩
      intro _ we hinv
      obtain ⟨b, f4, rfl, ha⟩ := hinv
      subst ha
      dsimp only
      go_upto_if 172 with fail
      refine wp_cut (fun a' wf => ∃ (skip' : Bool) (f : Nat → Value), (∃ wsl v'', wsl.filter nb = [] ∧ wsl.length ≤ 1 ∧ PAt X pp B wf q { r with buf := v'', level := L2, pw := pw', pc := pc', tt := 20, data := d0 } (bl ++ wsl) fns ∧ Adv B w wf) ∧
        a' = (⟨#[.pointer (some ⟨pp, 0, none⟩), f 1, .int .u32 0, .bool false, .bool ins, .bool skip', .int .u32 tt, .slice (some ⟨tk.b, tk.off, none⟩) n tk.cap, f 8, f 9, f 10, f 11, f 12, f 13, f 14, f 15, f 16, f 17, f 18, f 19, f 20, f 21, f 22, f 23, f 24, f 25, f 26, f 27, f 28, f 29, f 30, f 31, f 32, f 33, f 34, f 35, f 36, f 37, f 38, f 39, f 40, f 41, f 42, f 43, f 44, f 45, f 46, f 47, f 48, f 49, f 50, f 51, f 52, f 53, f 54, f 55, f 56, f 57, f 58, f 59, f 60, f 61, f 62, f 63, f 64, f 65, f 66, f 67, f 68, f 69, f 70, f 71, f 72, f 73, f 74, f 75, f 76, f 77, f 78, f 79, f 80, f 81, f 82, f 83, f 84, f 85, f 86, f 87, f 88, f 89, f 90, f 91, f 92, f 93, f 94, f 95, f 96, f 97, f 98, f 99, f 100, f 101, f 102, f 103, f 104, f 105, f 106, f 107, f 108, f 109, f 110, f 111, f 112, f 113, f 114, f 115, f 116, f 117, f 118, f 119, f 120, f 121, f 122, f 123, f 124, f 125, f 126, f 127, f 128, f 129, f 130, f 131, f 132, f 133, f 134, f 135, f 136, f 137, f 138, f 139, f 140, f 141, f 142, f 143, f 144, f 145, f 146, f 147, f 148, f 149, f 150, f 151, f 152, f 153, f 154, f 155, f 156, f 157, f 158, f 159, f 160, f 161, f 162, f 163, f 164, f 165, f 166, f 167, f 168, f 169, f 170, f 171, f 172, f 173, f 174, f 175, f 176, f 177, f 178, f 179, f 180, f 181, f 182, f 183, f 184, f 185, f 186, f 187, f 188, f 189, f 190, f 191, f 192, f 193, f 194, f 195], []⟩ : Act)) ?_ ?_
      rotate_left
      · skip
        intro _ _ _ _
        have k9 := hP2.f9
        dsimp only at k9
        cases b with
        | true =>
          go_wp2
          refine Met.intro ?_
          go_step
          exact ⟨true, frm_exists ⟨[], _, rfl, Nat.zero_le _, by rw [List.append_nil]; exact hP2, hA2⟩ (by kernel_rfl)⟩
        | false =>
        cases pw' with
        | false =>
          go_wp2
          refine Met.intro ?_
          go_step
          exact ⟨false, frm_exists ⟨[], _, rfl, Nat.zero_le _, by rw [List.append_nil]; exact hP2, hA2⟩ (by kernel_rfl)⟩
        | true =>
        cases skip with
        | true =>
          go_wp2
          refine Met.intro ?_
          go_step
          exact ⟨false, frm_exists ⟨[], _, rfl, Nat.zero_le _, by rw [List.append_nil]; exact hP2, hA2⟩ (by kernel_rfl)⟩
        | false =>
        cases ins with
        | true =>
          go_wp2
          refine Met.intro ?_
          go_step
          exact ⟨false, frm_exists ⟨[], _, rfl, Nat.zero_le _, by rw [List.append_nil]; exact hP2, hA2⟩ (by kernel_rfl)⟩
        | false =>
          have hl1 : bl.length ≤ 1000000 := by have := HBIG.out; have := hP2.lx.pl; have := HBK.out; omega
          have hpu := fun (w9 : World) (r9 : PR) (g : Nat) (hP : PAt X pp B w9 q r9 bl fns) (hk : (Tok.mk 20 g 0 1 [32]).Ok w9) => push_any X pp B w9 q r9 bl fns hP (Tok.mk 20 g 0 1 [32]) hk hl1
          go_wp2_with (first | (go_at_call 77; ((with_reducible refine (ws_bytes we).mono ?_); rintro x w2 ⟨g, rfl, hok, hb⟩; have hP4 := hP2.below hb; have hA4 := hA2.trans (Adv.ofBelow hb hP2.hB))) | (go_at_call 60; ((refine (hpu _ _ _ hP4 (hok 20)).mono ?_); rintro x w3 ⟨rfl, v3, hP5, hA5⟩)))
          refine Met.intro ?_
          go_step
          exact ⟨false, frm_exists ⟨[Tok.mk 20 g 0 1 [32]], _, rfl, Nat.le_refl _, hP5, hA4.trans hA5⟩ (by kernel_rfl)⟩
      intro _ wf hinv
      obtain ⟨skip', f5, ⟨wsl, v'', hws1, hws2, hP3, hA3⟩, ha⟩ := hinv
      subst ha
      dsimp only
      have HWS := Lib.hid (show _ ∧ _ from ⟨hws1, hws2⟩)
      clear hP2 hA2 hws1 hws2
      go_upto_if 189 with fail
      refine wp_cut (fun a' wg => ∃ (ins' : Bool) (f : Nat → Value), wg = wf ∧
        a' = (⟨#[.pointer (some ⟨pp, 0, none⟩), f 1, .int .u32 0, .bool false, .bool ins', .bool skip', .int .u32 tt, .slice (some ⟨tk.b, tk.off, none⟩) n tk.cap, f 8, f 9, f 10, f 11, f 12, f 13, f 14, f 15, f 16, f 17, f 18, f 19, f 20, f 21, f 22, f 23, f 24, f 25, f 26, f 27, f 28, f 29, f 30, f 31, f 32, f 33, f 34, f 35, f 36, f 37, f 38, f 39, f 40, f 41, f 42, f 43, f 44, f 45, f 46, f 47, f 48, f 49, f 50, f 51, f 52, f 53, f 54, f 55, f 56, f 57, f 58, f 59, f 60, f 61, f 62, f 63, f 64, f 65, f 66, f 67, f 68, f 69, f 70, f 71, f 72, f 73, f 74, f 75, f 76, f 77, f 78, f 79, f 80, f 81, f 82, f 83, f 84, f 85, f 86, f 87, f 88, f 89, f 90, f 91, f 92, f 93, f 94, f 95, f 96, f 97, f 98, f 99, f 100, f 101, f 102, f 103, f 104, f 105, f 106, f 107, f 108, f 109, f 110, f 111, f 112, f 113, f 114, f 115, f 116, f 117, f 118, f 119, f 120, f 121, f 122, f 123, f 124, f 125, f 126, f 127, f 128, f 129, f 130, f 131, f 132, f 133, f 134, f 135, f 136, f 137, f 138, f 139, f 140, f 141, f 142, f 143, f 144, f 145, f 146, f 147, f 148, f 149, f 150, f 151, f 152, f 153, f 154, f 155, f 156, f 157, f 158, f 159, f 160, f 161, f 162, f 163, f 164, f 165, f 166, f 167, f 168, f 169, f 170, f 171, f 172, f 173, f 174, f 175, f 176, f 177, f 178, f 179, f 180, f 181, f 182, f 183, f 184, f 185, f 186, f 187, f 188, f 189, f 190, f 191, f 192, f 193, f 194, f 195], []⟩ : Act)) ?_ ?_
      rotate_left
      · skip
        intro _ _ _ _
        cases h26 : (tt == 26) with
        | true => go_wp2; refine Met.intro ?_; go_step; exact ⟨true, frm_exists rfl (by kernel_rfl)⟩
        | false =>
        cases h27 : (tt == 27) with
        | true => go_wp2; refine Met.intro ?_; go_step; exact ⟨false, frm_exists rfl (by kernel_rfl)⟩
        | false => go_wp2; refine Met.intro ?_; go_step; exact ⟨ins, frm_exists rfl (by kernel_rfl)⟩
      intro _ wg hinv
      obtain ⟨ins', f6, rfl, ha⟩ := hinv
      subst ha
      dsimp only
      obtain ⟨e2, e4, e5, e6, e7, e8, e9, e10, hS, _, hL, hL2⟩ := HBK.out
      obtain ⟨hws1, hws2⟩ := HWS.out
      have hpl := hP3.lx.pl
      have hkd : tk = X.tok tt q1 q := HTK.out
      have hok : tk.Ok wg := by rw [hkd]; exact hP3.toPB.tok tt hpl
      have htt : tk.tt = tt := by rw [hkd]; rfl
      have hpu := push_any X pp B wg q _ _ fns hP3 tk hok (by rw [List.length_append]; have := HBIG.out; omega)
      rw [htt] at hpu
      simp only [Tok.val] at hpu
      rw [← HN.out] at hpu
      have hnb : nb tk = true := by rw [nb, htt]; simpa using e7
      have hfil : (bl ++ wsl ++ [tk]).filter nb ++ X.toks l2 = vals := by
        rw [← e8, List.filter_append, List.filter_append, hws1, List.append_nil]
        simp [hnb]
      have HF := Lib.hid (show gk = l2.length + 1 ∧ (bl ++ wsl ++ [tk]).filter nb ++ X.toks l2 = vals ∧ Bal lvx l2 ∧ Toks X q l2 e ∧ (bl ++ wsl ++ [tk]).length ≤ 2 * q ∧ lvx ≤ q ∧ L2 = lvx ∧ Slb wg d0 [] from
        ⟨e6, hfil, e4, e5, by rw [List.length_append, List.length_append, List.length_singleton]; omega, by have := HLV.out; omega, hL2, hS.nil_any⟩)
      clear e2 e4 e5 e6 e7 e8 e9 e10 hS hL hL2 hws1 hws2 hkd htt hnb hfil
      go_wp2_with (go_at_call 60; ((with_reducible refine hpu.mono ?_); rintro x w3 ⟨rfl, v3, hP5, hA5⟩))
      obtain ⟨g1, g2, g3, g4, g5, g6, g7, g8⟩ := HF.out
      rw [g7] at hP5
      refine Handed.intro l2.length ?measure ?_
      rotate_left
      go_step
      exact ⟨false, ins', skip', frm_exists (.inr ⟨rfl, q, l2, lvx, _, v3, d0, _, _, g3, g4, rfl, g2, hP5, hA3.trans hA5, g8.nil_any, g5, g6⟩) (by kernel_rfl)⟩
      case measure => omega
end
end Go.Proofs.YtlglijnaeaonpaaGreatDoor.Css
