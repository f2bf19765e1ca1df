/- A list of declarations: the next one; the end of a rule's list. -/
import Derived.StillTailTactics
import Derived.Test.YtlglijnaeaonpaaGreatDoorMh
set_option linter.all false
/- A list of declarations: the next one; the end of a rule's list. -/
namespace Go.Proofs.YtlglijnaeaonpaaGreatDoor.Css
open Go.RowKit

/-- A declaration is to come: its name has been read up to p. -/
structure DeclIn (X : Lx) (p : Nat) (nm : Tok) (vals : List Tok) (e : Nat) (tE : Int) (vE : Value) (qE : Nat) : Prop where
  to_ : ∃ (l : List (Int × Nat × Nat)) (c : Tok), Toks X p l e ∧ Bal 0 l ∧ X.toks l = c :: vals ∧ c.tt = 23
  v0 : vals ≠ []
  ws : isWS (byte X.t p) = false
  p0 : 1 ≤ 2 * p
  end_ : Pop X e tE vE qE
  tE : tE = 24 ∨ tE = 31 ∨ tE = 0
  cap : NoCap nm.bs
  len : nm.bs.length ≤ 200000
  big : X.t.length ≤ 200000
  tt : nm.tt = 1

theorem Stk.shape {w : World} {B : Nat} {v : Value} {l : List Nat} (h : Stk w B v l) (h0 : 0 < l.length) : ∃ g off cap, v = .slice (some ⟨g, off, none⟩) l.length cap ∧ l.length ≤ cap ∧ cap ≤ maxLen := by
  rcases h.2 with ⟨_, e⟩ | ⟨g, off, cap, cur, hv, _, _, _, _, hn, hm⟩
  · omega
  · exact ⟨g, off, cap, hv, hn, hm⟩
theorem Stk.pop {w : World} {B : Nat} {a : Addr} {n cap : Nat} {l : List Nat} (h : Stk w B (.slice (some a) n cap) l) (hn : n = l.length) : Stk w B (.slice (some a) (n - 1) cap) l.dropLast := by
  subst hn
  have := Own.take h (l.length - 1) (by omega)
  rw [Stk, List.length_dropLast, List.dropLast_eq_take, List.map_take]
  simpa using this

section
variable (X : Lx) (pp B : Nat) (w : World) (p : Nat) (r : PR) (toks : List Tok) (fns : List Nat) (h : PAt X pp B w p r toks fns)
include h
theorem decl_in (nm : Tok) (vals : List Tok) (e : Nat) (tE : Int) (vE : Value) (qE : Nat) (hd : DeclIn X p nm vals e tE vE qE) (hnm : nm.Ok w) (hnt : r.tt = nm.tt) (hnd : r.data = nm.val) (hlv : r.level = 0) :
    Calls Tryz.prog 55 #[.pointer (some ⟨pp, 0, none⟩)] w (DPost X pp B w r fns vals e tE qE nm) := by
  obtain ⟨l, c, h1, h2, h3, h4⟩ := hd.to_
  exact decl_any X pp B w p r toks fns h nm hnm hd.cap hd.len hnt hnd hlv l e h1 h2 c vals hd.v0 h3 h4 hd.ws hd.p0 hd.big tE vE qE hd.end_ hd.tE

set_option maxRecDepth 100000 in
set_option maxHeartbeats 1000000 in
theorem list_decl (nm : Tok) (vals : List Tok) (e : Nat) (tE : Int) (vE : Value) (qE : Nat) (hd : DeclIn X p nm vals e tE vE qE) (hnm : nm.Ok w) (hnt : r.tt = nm.tt) (hnd : r.data = nm.val) (hlv : r.level = 0) :
    Calls Tryz.prog 38 #[.pointer (some ⟨pp, 0, none⟩)] w (DPost X pp B w r fns vals e tE qE nm) := by
  have k7 := h.f7
  rw [hnt, hd.tt] at k7
  have hcall := decl_in X pp B w p r toks fns h nm vals e tE vE qE hd hnm hnt hnd hlv
  clear hd hnt hnd hlv hnm
  go_enter Tryz.func38, Tryz.ntmps38
  go_wp2
  refine wp_loop_once fun _ => ?_
  go_wp2_with (go_at_call 55; ((with_reducible refine hcall.mono ?_); rintro e w1 ⟨rfl, hp⟩))
  go_ret
  exact ⟨rfl, hp⟩

set_option maxRecDepth 100000 in
set_option maxHeartbeats 1000000 in
theorem list_end (hnt : r.tt = 0) :
    Calls Tryz.prog 38 #[.pointer (some ⟨pp, 0, none⟩)] w fun e w' => e = .returned (.int .u32 0) ∧ w = w' := by
  have k7 := h.f7
  rw [hnt] at k7
  clear hnt
  go_enter Tryz.func38, Tryz.ntmps38
  go_wp2
  refine wp_loop_once fun _ => ?_
  go_wp2
  go_ret
  exact ⟨rfl, rfl⟩

set_option maxRecDepth 100000 in
set_option maxHeartbeats 1000000 in
theorem qual_decl (nm : Tok) (vals : List Tok) (e : Nat) (tE : Int) (vE : Value) (qE : Nat) (hd : DeclIn X p nm vals e tE vE qE) (hnm : nm.Ok w) (hnt : r.tt = nm.tt) (hnd : r.data = nm.val) (hlv : r.level = 0) :
    Calls Tryz.prog 79 #[.pointer (some ⟨pp, 0, none⟩)] w (DPost X pp B w r fns vals e tE qE nm) := by
  have k7 := h.f7
  rw [hnt, hd.tt] at k7
  have hcall := list_decl X pp B w p r toks fns h nm vals e tE vE qE hd hnm hnt hnd hlv
  clear hd hnt hnd hlv hnm
  go_enter Tryz.func79, Tryz.ntmps79
  go_wp2
  refine wp_loop_once fun _ => ?_
  go_wp2_with (go_at_call 38; ((with_reducible refine hcall.mono ?_); rintro e w1 ⟨rfl, hp⟩))
  go_ret
  exact ⟨rfl, hp⟩

/-- A state is left. -/
def PopPost (gt : Int) (X : Lx) (pp B : Nat) (w : World) (p : Nat) (r : PR) (toks : List Tok) (fns : List Nat) (x : Ending) (w' : World) : Prop :=
  x = .returned (.int .u32 gt) ∧ ∃ sv, PAt X pp B w' p { r with state := sv } toks fns.dropLast ∧ Adv B w w'

set_option maxRecDepth 100000 in
set_option maxHeartbeats 1000000 in
theorem qual_end (hnt : r.tt = 31) (h0 : 0 < fns.length) :
    Calls Tryz.prog 79 #[.pointer (some ⟨pp, 0, none⟩)] w (PopPost 7 X pp B w p r toks fns) := by
  have k7 := h.f7
  rw [hnt] at k7
  obtain ⟨g, off, cap, hv, hn, hm⟩ := h.stk.shape h0
  have k1 := h.f1
  have kff := h.ff
  rw [hv] at k1
  unfold maxLen at hm
  obtain ⟨n, hnn⟩ : ∃ n, n = fns.length := ⟨_, rfl⟩
  rw [← hnn] at k1 hn h0
  have hstk := Stk.pop (hv ▸ h.stk) rfl
  rw [← hnn] at hstk
  obtain ⟨hP, hA⟩ := h.set 1 (.slice (some ⟨g, off, none⟩) (n - 1) cap) { r with state := .slice (some ⟨g, off, none⟩) (n - 1) cap } rfl h.buf hstk
  clear hnn hv hnt hstk
  have s1 : IntKind.i64.wrap ((n : Int) - 1) = (n : Int) - 1 := IntWalk.i64_in _ (by omega)
  have s2 : (0 : Int) ≤ (n : Int) - 1 := by omega
  have s3 : (n : Int) - 1 ≤ (cap : Int) := by omega
  have s4 : ((n : Int) - 1).toNat = n - 1 := by omega
  have s5 : 1 ≤ n := by omega
  go_enter Tryz.func79, Tryz.ntmps79
  go_wp2
  refine wp_loop_once fun _ => ?_
  go_wp2
  go_region
  all_goals (go_wp2; go_ret; exact ⟨rfl, _, hP.drew, hA.drew⟩)
end
end Go.Proofs.YtlglijnaeaonpaaGreatDoor.Css
/- The parser's next part, whatever its state does. -/
namespace Go.Proofs.YtlglijnaeaonpaaGreatDoor.Css
open Go.RowKit

/-- What a state's function leaves. -/
def SP (X : Lx) (pp B : Nat) (w : World) (gt : Int) (C : World → Nat → PR → List Tok → List Nat → Prop) (e : Ending) (w' : World) : Prop :=
  e = .returned (.int .u32 gt) ∧ ∃ (p' : Nat) (r' : PR) (toks' : List Tok) (fns' : List Nat), PAt X pp B w' p' r' toks' fns' ∧ Adv B w w' ∧ C w' p' r' toks' fns'
/-- What the next part is. -/
def NP (X : Lx) (pp B : Nat) (w : World) (gt : Int) (C : World → Nat → PR → List Tok → List Nat → Prop) (e : Ending) (w' : World) : Prop :=
  ∃ (p' : Nat) (r' : PR) (toks' : List Tok) (fns' : List Nat), e = .returned (.tuple #[.int .u32 gt, .int .u32 r'.tt, r'.data]) ∧ PAt X pp B w' p' r' toks' fns' ∧ Adv B w w' ∧ C w' p' r' toks' fns'

theorem Stk.top {w : World} {B : Nat} {g off n cap : Nat} {l : List Nat} (h : Stk w B (.slice (some ⟨g, off, none⟩) n cap) l) (fn : Nat) (hfn : l.getLast? = some fn) :
    n = l.length ∧ 0 < n ∧ w.cell? ⟨g, off + (n - 1), none⟩ = some (fnVal fn) := by
  have hn : n = l.length := by
    rcases h.2 with ⟨hv, _⟩ | ⟨_, _, _, _, hv, _⟩
    · cases hv
    · cases hv; rfl
  subst hn
  have h0 : 0 < l.length := by
    rcases Nat.eq_zero_or_pos l.length with h0 | h0
    · rw [List.eq_nil_of_length_eq_zero h0] at hfn; cases hfn
    · exact h0
  refine ⟨rfl, h0, ?_⟩
  have := Own.cells h (l.length - 1) (fnVal fn) (by
    rw [List.getElem?_map, ← List.getLast?_eq_getElem?, hfn]; rfl)
  rwa [Addr.add_lit] at this

section
variable (X : Lx) (pp B : Nat) (w : World) (p : Nat) (r : PR) (toks : List Tok) (fns : List Nat) (h : PAt X pp B w p r toks fns)
include h
set_option maxRecDepth 100000 in
set_option maxHeartbeats 2000000 in
theorem next_pop38 (hpe : r.pe = false) (tt : Int) (dv : Value) (q : Nat) (hx : Pop X p tt dv q) (hfn : fns.getLast? = some 38) (gt : Int) (C : World → Nat → PR → List Tok → List Nat → Prop)
    (hcd : ∀ w p r t f n, C w p r t f → C (w.drewN n) p r t f)
    (hcall : ∀ w1, PAt X pp B w1 q { r with pw := isWS (byte X.t p), pc := false, tt := tt, data := dv } toks fns → Adv B w w1 → Calls Tryz.prog 38 #[.pointer (some ⟨pp, 0, none⟩)] w1 (SP X pp B w1 gt C)) :
    Calls Tryz.prog 21 #[.pointer (some ⟨pp, 0, none⟩)] w (NP X pp B w gt C) := by
  have k2 := h.f2
  have k10 := h.f10
  have kff := h.ff
  rw [hpe] at k10
  obtain ⟨hP1, hA1⟩ := h.set 2 (.string ⟨#[]⟩) r rfl h.buf h.stk
  have hpop := pop_any X pp B _ p r toks fns hP1 true tt dv q hx
  have HCD := Lib.hid hcd
  have HCALL := Lib.hid hcall
  have HFN := Lib.hid hfn
  obtain ⟨da, dn, dc, rfl⟩ : ∃ a n c, dv = .slice a n c := by cases hx <;> exact ⟨_, _, _, rfl⟩
  clear hcd hcall hfn hx hpe
  go_enter Tryz.func21, Tryz.ntmps21
  go_upto_region 5 with fail
  go_cut [] from 23 to 33 (fun wc => PAt X pp B wc q { r with pw := isWS (byte X.t p), pc := false, tt := tt, data := .slice da dn dc } toks fns ∧ Adv B w wc)
  case first =>
    go_upto_region 99 with (go_at_call 44; (with_reducible refine hpop.mono ?_); rintro e w1 ⟨rfl, hP2, hA2⟩; have m7 := hP2.f7; have m6 := hP2.f6; have mff := hP2.ff)
    obtain ⟨hP3, hA3⟩ := hP2.set 7 (.int .u32 tt) { r with pw := isWS (byte X.t p), pc := false, tt := tt } rfl hP2.buf hP2.stk
    obtain ⟨hP4, hA4⟩ := hP3.set 6 (.slice da dn dc) { r with pw := isWS (byte X.t p), pc := false, tt := tt, data := .slice da dn dc } rfl hP3.buf hP3.stk
    go_meet
    exact ⟨hP4, ((hA1.trans hA2).trans hA3).trans hA4⟩
  case rest =>
  obtain ⟨hP, hA⟩ := hcut
  obtain ⟨g, off, cap, hv, hn, hm⟩ := hP.stk.shape (by
    have := HFN.out
    cases fns with
    | nil => cases this
    | cons _ _ => exact Nat.succ_pos _)
  have hstk := hP.stk
  rw [hv] at hstk
  obtain ⟨hn2, hn0, hcell⟩ := hstk.top 38 HFN.out
  have k1 := hP.f1
  rw [hv] at k1
  unfold maxLen at hm
  obtain ⟨n, hnn⟩ : ∃ n, n = fns.length := ⟨_, rfl⟩
  rw [← hnn] at k1 hn hn0 hcell
  have s1 : IntKind.i64.wrap ((n : Int) - 1) = (n : Int) - 1 := IntWalk.i64_in _ (by omega)
  have s2 : (0 : Int) ≤ (n : Int) - 1 := by omega
  have s3 : (n : Int) - 1 < (n : Int) := by omega
  have s4 : ((n : Int) - 1).toNat = n - 1 := by omega
  have s5 : (1 : Int) ≤ (n : Int) := by omega
  have s6 : 1 ≤ n := hn0
  simp only [fnVal] at hcell
  clear hnn hv hn2 hstk hpop hP1 hA1 k2 k10 kff
  go_upto_region 6 with fail
  go_cut [5] from 34 to 47 (fun s wx => s = .int .u32 gt ∧ ∃ (p' : Nat) (r' : PR) (toks' : List Tok) (fns' : List Nat), PAt X pp B wx p' r' toks' fns' ∧ Adv B w wx ∧ C wx p' r' toks' fns')
  case first =>
    go_still_tail 13, (by kernel_rfl)
    change wpList _ _ _ _ _ wc.drew
    have hPd := hP.drew
    have hAd := hA.drew
    obtain ⟨w2, hw2⟩ : ∃ w2, w2 = wc.drew := ⟨_, rfl⟩
    rw [← hw2] at hPd hAd ⊢
    clear hw2
    go_wp2_with (go_at_call 38; (with_reducible refine (HCALL.out _ hPd hAd).mono ?_); rintro e w3 ⟨rfl, p', r', toks', fns', hP3, hA3, hC3⟩)
    go_meet
    exact ⟨rfl, p', r', toks', fns', hP3, hAd.trans hA3, hC3⟩
  case rest =>
  obtain ⟨rfl, p', r', toks', fns', hP4, hA4, hC4⟩ := hcut
  have k7 := hP4.f7
  have k6 := hP4.f6
  have HC4 := Lib.hid hC4
  clear hC4 hcell k1
  go_wp2
  go_quiet (fail)
  go_wp2
  go_ret3
  exact ⟨p', r', toks', fns', rfl, hP4.drewN _, hA4.drewN _, HCD.out _ _ _ _ _ _ HC4.out⟩
set_option maxRecDepth 100000 in
set_option maxHeartbeats 2000000 in
theorem next_pop79 (hpe : r.pe = false) (tt : Int) (dv : Value) (q : Nat) (hx : Pop X p tt dv q) (hfn : fns.getLast? = some 79) (gt : Int) (C : World → Nat → PR → List Tok → List Nat → Prop)
    (hcd : ∀ w p r t f n, C w p r t f → C (w.drewN n) p r t f)
    (hcall : ∀ w1, PAt X pp B w1 q { r with pw := isWS (byte X.t p), pc := false, tt := tt, data := dv } toks fns → Adv B w w1 → Calls Tryz.prog 79 #[.pointer (some ⟨pp, 0, none⟩)] w1 (SP X pp B w1 gt C)) :
    Calls Tryz.prog 21 #[.pointer (some ⟨pp, 0, none⟩)] w (NP X pp B w gt C) := by
  have k2 := h.f2
  have k10 := h.f10
  have kff := h.ff
  rw [hpe] at k10
  obtain ⟨hP1, hA1⟩ := h.set 2 (.string ⟨#[]⟩) r rfl h.buf h.stk
  have hpop := pop_any X pp B _ p r toks fns hP1 true tt dv q hx
  have HCD := Lib.hid hcd
  have HCALL := Lib.hid hcall
  have HFN := Lib.hid hfn
  obtain ⟨da, dn, dc, rfl⟩ : ∃ a n c, dv = .slice a n c := by cases hx <;> exact ⟨_, _, _, rfl⟩
  clear hcd hcall hfn hx hpe
  go_enter Tryz.func21, Tryz.ntmps21
  go_upto_region 5 with fail
  go_cut [] from 23 to 33 (fun wc => PAt X pp B wc q { r with pw := isWS (byte X.t p), pc := false, tt := tt, data := .slice da dn dc } toks fns ∧ Adv B w wc)
  case first =>
    go_upto_region 99 with (go_at_call 44; (with_reducible refine hpop.mono ?_); rintro e w1 ⟨rfl, hP2, hA2⟩; have m7 := hP2.f7; have m6 := hP2.f6; have mff := hP2.ff)
    obtain ⟨hP3, hA3⟩ := hP2.set 7 (.int .u32 tt) { r with pw := isWS (byte X.t p), pc := false, tt := tt } rfl hP2.buf hP2.stk
    obtain ⟨hP4, hA4⟩ := hP3.set 6 (.slice da dn dc) { r with pw := isWS (byte X.t p), pc := false, tt := tt, data := .slice da dn dc } rfl hP3.buf hP3.stk
    go_meet
    exact ⟨hP4, ((hA1.trans hA2).trans hA3).trans hA4⟩
  case rest =>
  obtain ⟨hP, hA⟩ := hcut
  obtain ⟨g, off, cap, hv, hn, hm⟩ := hP.stk.shape (by
    have := HFN.out
    cases fns with
    | nil => cases this
    | cons _ _ => exact Nat.succ_pos _)
  have hstk := hP.stk
  rw [hv] at hstk
  obtain ⟨hn2, hn0, hcell⟩ := hstk.top 79 HFN.out
  have k1 := hP.f1
  rw [hv] at k1
  unfold maxLen at hm
  obtain ⟨n, hnn⟩ : ∃ n, n = fns.length := ⟨_, rfl⟩
  rw [← hnn] at k1 hn hn0 hcell
  have s1 : IntKind.i64.wrap ((n : Int) - 1) = (n : Int) - 1 := IntWalk.i64_in _ (by omega)
  have s2 : (0 : Int) ≤ (n : Int) - 1 := by omega
  have s3 : (n : Int) - 1 < (n : Int) := by omega
  have s4 : ((n : Int) - 1).toNat = n - 1 := by omega
  have s5 : (1 : Int) ≤ (n : Int) := by omega
  have s6 : 1 ≤ n := hn0
  simp only [fnVal] at hcell
  clear hnn hv hn2 hstk hpop hP1 hA1 k2 k10 kff
  go_upto_region 6 with fail
  go_cut [5] from 34 to 47 (fun s wx => s = .int .u32 gt ∧ ∃ (p' : Nat) (r' : PR) (toks' : List Tok) (fns' : List Nat), PAt X pp B wx p' r' toks' fns' ∧ Adv B w wx ∧ C wx p' r' toks' fns')
  case first =>
    go_still_tail 13, (by kernel_rfl)
    change wpList _ _ _ _ _ wc.drew
    have hPd := hP.drew
    have hAd := hA.drew
    obtain ⟨w2, hw2⟩ : ∃ w2, w2 = wc.drew := ⟨_, rfl⟩
    rw [← hw2] at hPd hAd ⊢
    clear hw2
    go_wp2_with (go_at_call 79; (with_reducible refine (HCALL.out _ hPd hAd).mono ?_); rintro e w3 ⟨rfl, p', r', toks', fns', hP3, hA3, hC3⟩)
    go_meet
    exact ⟨rfl, p', r', toks', fns', hP3, hAd.trans hA3, hC3⟩
  case rest =>
  obtain ⟨rfl, p', r', toks', fns', hP4, hA4, hC4⟩ := hcut
  have k7 := hP4.f7
  have k6 := hP4.f6
  have HC4 := Lib.hid hC4
  clear hC4 hcell k1
  go_wp2
  go_quiet (fail)
  go_wp2
  go_ret3
  exact ⟨p', r', toks', fns', rfl, hP4.drewN _, hA4.drewN _, HCD.out _ _ _ _ _ _ HC4.out⟩
set_option maxRecDepth 100000 in
set_option maxHeartbeats 2000000 in
theorem next_pop39 (hpe : r.pe = false) (tt : Int) (dv : Value) (q : Nat) (hx : Pop X p tt dv q) (hfn : fns.getLast? = some 39) (gt : Int) (C : World → Nat → PR → List Tok → List Nat → Prop)
    (hcd : ∀ w p r t f n, C w p r t f → C (w.drewN n) p r t f)
    (hcall : ∀ w1, PAt X pp B w1 q { r with pw := isWS (byte X.t p), pc := false, tt := tt, data := dv } toks fns → Adv B w w1 → Calls Tryz.prog 39 #[.pointer (some ⟨pp, 0, none⟩)] w1 (SP X pp B w1 gt C)) :
    Calls Tryz.prog 21 #[.pointer (some ⟨pp, 0, none⟩)] w (NP X pp B w gt C) := by
  have k2 := h.f2
  have k10 := h.f10
  have kff := h.ff
  rw [hpe] at k10
  obtain ⟨hP1, hA1⟩ := h.set 2 (.string ⟨#[]⟩) r rfl h.buf h.stk
  have hpop := pop_any X pp B _ p r toks fns hP1 true tt dv q hx
  have HCD := Lib.hid hcd
  have HCALL := Lib.hid hcall
  have HFN := Lib.hid hfn
  obtain ⟨da, dn, dc, rfl⟩ : ∃ a n c, dv = .slice a n c := by cases hx <;> exact ⟨_, _, _, rfl⟩
  clear hcd hcall hfn hx hpe
  go_enter Tryz.func21, Tryz.ntmps21
  go_upto_region 5 with fail
  go_cut [] from 23 to 33 (fun wc => PAt X pp B wc q { r with pw := isWS (byte X.t p), pc := false, tt := tt, data := .slice da dn dc } toks fns ∧ Adv B w wc)
  case first =>
    go_upto_region 99 with (go_at_call 44; (with_reducible refine hpop.mono ?_); rintro e w1 ⟨rfl, hP2, hA2⟩; have m7 := hP2.f7; have m6 := hP2.f6; have mff := hP2.ff)
    obtain ⟨hP3, hA3⟩ := hP2.set 7 (.int .u32 tt) { r with pw := isWS (byte X.t p), pc := false, tt := tt } rfl hP2.buf hP2.stk
    obtain ⟨hP4, hA4⟩ := hP3.set 6 (.slice da dn dc) { r with pw := isWS (byte X.t p), pc := false, tt := tt, data := .slice da dn dc } rfl hP3.buf hP3.stk
    go_meet
    exact ⟨hP4, ((hA1.trans hA2).trans hA3).trans hA4⟩
  case rest =>
  obtain ⟨hP, hA⟩ := hcut
  obtain ⟨g, off, cap, hv, hn, hm⟩ := hP.stk.shape (by
    have := HFN.out
    cases fns with
    | nil => cases this
    | cons _ _ => exact Nat.succ_pos _)
  have hstk := hP.stk
  rw [hv] at hstk
  obtain ⟨hn2, hn0, hcell⟩ := hstk.top 39 HFN.out
  have k1 := hP.f1
  rw [hv] at k1
  unfold maxLen at hm
  obtain ⟨n, hnn⟩ : ∃ n, n = fns.length := ⟨_, rfl⟩
  rw [← hnn] at k1 hn hn0 hcell
  have s1 : IntKind.i64.wrap ((n : Int) - 1) = (n : Int) - 1 := IntWalk.i64_in _ (by omega)
  have s2 : (0 : Int) ≤ (n : Int) - 1 := by omega
  have s3 : (n : Int) - 1 < (n : Int) := by omega
  have s4 : ((n : Int) - 1).toNat = n - 1 := by omega
  have s5 : (1 : Int) ≤ (n : Int) := by omega
  have s6 : 1 ≤ n := hn0
  simp only [fnVal] at hcell
  clear hnn hv hn2 hstk hpop hP1 hA1 k2 k10 kff
  go_upto_region 6 with fail
  go_cut [5] from 34 to 47 (fun s wx => s = .int .u32 gt ∧ ∃ (p' : Nat) (r' : PR) (toks' : List Tok) (fns' : List Nat), PAt X pp B wx p' r' toks' fns' ∧ Adv B w wx ∧ C wx p' r' toks' fns')
  case first =>
    go_still_tail 13, (by kernel_rfl)
    change wpList _ _ _ _ _ wc.drew
    have hPd := hP.drew
    have hAd := hA.drew
    obtain ⟨w2, hw2⟩ : ∃ w2, w2 = wc.drew := ⟨_, rfl⟩
    rw [← hw2] at hPd hAd ⊢
    clear hw2
    go_wp2_with (go_at_call 39; (with_reducible refine (HCALL.out _ hPd hAd).mono ?_); rintro e w3 ⟨rfl, p', r', toks', fns', hP3, hA3, hC3⟩)
    go_meet
    exact ⟨rfl, p', r', toks', fns', hP3, hAd.trans hA3, hC3⟩
  case rest =>
  obtain ⟨rfl, p', r', toks', fns', hP4, hA4, hC4⟩ := hcut
  have k7 := hP4.f7
  have k6 := hP4.f6
  have HC4 := Lib.hid hC4
  clear hC4 hcell k1
  go_wp2
  go_quiet (fail)
  go_wp2
  go_ret3
  exact ⟨p', r', toks', fns', rfl, hP4.drewN _, hA4.drewN _, HCD.out _ _ _ _ _ _ HC4.out⟩
set_option maxRecDepth 100000 in
set_option maxHeartbeats 2000000 in
theorem next_pop75 (hpe : r.pe = false) (tt : Int) (dv : Value) (q : Nat) (hx : Pop X p tt dv q) (hfn : fns.getLast? = some 75) (gt : Int) (C : World → Nat → PR → List Tok → List Nat → Prop)
    (hcd : ∀ w p r t f n, C w p r t f → C (w.drewN n) p r t f)
    (hcall : ∀ w1, PAt X pp B w1 q { r with pw := isWS (byte X.t p), pc := false, tt := tt, data := dv } toks fns → Adv B w w1 → Calls Tryz.prog 75 #[.pointer (some ⟨pp, 0, none⟩)] w1 (SP X pp B w1 gt C)) :
    Calls Tryz.prog 21 #[.pointer (some ⟨pp, 0, none⟩)] w (NP X pp B w gt C) := by
  have k2 := h.f2
  have k10 := h.f10
  have kff := h.ff
  rw [hpe] at k10
  obtain ⟨hP1, hA1⟩ := h.set 2 (.string ⟨#[]⟩) r rfl h.buf h.stk
  have hpop := pop_any X pp B _ p r toks fns hP1 true tt dv q hx
  have HCD := Lib.hid hcd
  have HCALL := Lib.hid hcall
  have HFN := Lib.hid hfn
  obtain ⟨da, dn, dc, rfl⟩ : ∃ a n c, dv = .slice a n c := by cases hx <;> exact ⟨_, _, _, rfl⟩
  clear hcd hcall hfn hx hpe
  go_enter Tryz.func21, Tryz.ntmps21
  go_upto_region 5 with fail
  go_cut [] from 23 to 33 (fun wc => PAt X pp B wc q { r with pw := isWS (byte X.t p), pc := false, tt := tt, data := .slice da dn dc } toks fns ∧ Adv B w wc)
  case first =>
    go_upto_region 99 with (go_at_call 44; (with_reducible refine hpop.mono ?_); rintro e w1 ⟨rfl, hP2, hA2⟩; have m7 := hP2.f7; have m6 := hP2.f6; have mff := hP2.ff)
    obtain ⟨hP3, hA3⟩ := hP2.set 7 (.int .u32 tt) { r with pw := isWS (byte X.t p), pc := false, tt := tt } rfl hP2.buf hP2.stk
    obtain ⟨hP4, hA4⟩ := hP3.set 6 (.slice da dn dc) { r with pw := isWS (byte X.t p), pc := false, tt := tt, data := .slice da dn dc } rfl hP3.buf hP3.stk
    go_meet
    exact ⟨hP4, ((hA1.trans hA2).trans hA3).trans hA4⟩
  case rest =>
  obtain ⟨hP, hA⟩ := hcut
  obtain ⟨g, off, cap, hv, hn, hm⟩ := hP.stk.shape (by
    have := HFN.out
    cases fns with
    | nil => cases this
    | cons _ _ => exact Nat.succ_pos _)
  have hstk := hP.stk
  rw [hv] at hstk
  obtain ⟨hn2, hn0, hcell⟩ := hstk.top 75 HFN.out
  have k1 := hP.f1
  rw [hv] at k1
  unfold maxLen at hm
  obtain ⟨n, hnn⟩ : ∃ n, n = fns.length := ⟨_, rfl⟩
  rw [← hnn] at k1 hn hn0 hcell
  have s1 : IntKind.i64.wrap ((n : Int) - 1) = (n : Int) - 1 := IntWalk.i64_in _ (by omega)
  have s2 : (0 : Int) ≤ (n : Int) - 1 := by omega
  have s3 : (n : Int) - 1 < (n : Int) := by omega
  have s4 : ((n : Int) - 1).toNat = n - 1 := by omega
  have s5 : (1 : Int) ≤ (n : Int) := by omega
  have s6 : 1 ≤ n := hn0
  simp only [fnVal] at hcell
  clear hnn hv hn2 hstk hpop hP1 hA1 k2 k10 kff
  go_upto_region 6 with fail
  go_cut [5] from 34 to 47 (fun s wx => s = .int .u32 gt ∧ ∃ (p' : Nat) (r' : PR) (toks' : List Tok) (fns' : List Nat), PAt X pp B wx p' r' toks' fns' ∧ Adv B w wx ∧ C wx p' r' toks' fns')
  case first =>
    go_still_tail 13, (by kernel_rfl)
    change wpList _ _ _ _ _ wc.drew
    have hPd := hP.drew
    have hAd := hA.drew
    obtain ⟨w2, hw2⟩ : ∃ w2, w2 = wc.drew := ⟨_, rfl⟩
    rw [← hw2] at hPd hAd ⊢
    clear hw2
    go_wp2_with (go_at_call 75; (with_reducible refine (HCALL.out _ hPd hAd).mono ?_); rintro e w3 ⟨rfl, p', r', toks', fns', hP3, hA3, hC3⟩)
    go_meet
    exact ⟨rfl, p', r', toks', fns', hP3, hAd.trans hA3, hC3⟩
  case rest =>
  obtain ⟨rfl, p', r', toks', fns', hP4, hA4, hC4⟩ := hcut
  have k7 := hP4.f7
  have k6 := hP4.f6
  have HC4 := Lib.hid hC4
  clear hC4 hcell k1
  go_wp2
  go_quiet (fail)
  go_wp2
  go_ret3
  exact ⟨p', r', toks', fns', rfl, hP4.drewN _, hA4.drewN _, HCD.out _ _ _ _ _ _ HC4.out⟩
end
end Go.Proofs.YtlglijnaeaonpaaGreatDoor.Css
