/- A sheet's text tells the parser its parts: the plain law. -/
import Derived.Test.YtlglijnaeaonpaaGreatDoorNad
import Derived.Test.YtlglijnaeaonpaaGreatDoorNag
import Derived.Test.YtlglijnaeaonpaaGreatDoorNu
set_option linter.all false
/- A sheet's text tells the parser its parts: the plain law. -/
namespace Go.Proofs.YtlglijnaeaonpaaGreatDoor.Css
open Go.RowKit

theorem SStr.blanks {X : Lx} {p p' : Nat} {pe : Bool} {fns : List Nat} {st : List Tok} {evs : List Ev} (h : SStr X p pe fns st evs) (he : spanEnd X.t isWS p' = spanEnd X.t isWS p) : SStr X p' pe fns st evs := by
  induction h with
  | nil p st h1 => exact .nil p' st (he.trans h1)
  | rule p p1 q e qE tt l lv2 vE fns top st evs h1 h2 h3 h4 h5 h6 h7 h8 h9 h10 h11 h12 _ => exact .rule p' p1 q e qE tt l lv2 vE fns top st evs h1 h2 (he.trans h3) h4 h5 h6 h7 h8 h9 h10 h11 h12
  | decl p p1 q e tE vE qE vals fns st evs h1 h2 h3 h4 h5 _ => exact .decl p' p1 q e tE vE qE vals fns st evs h1 (he.trans h2) h3 h4 h5
  | dend p p1 q fns st evs h1 h2 h3 h4 h5 _ => exact .dend p' p1 q fns st evs h1 (he.trans h2) h3 h4 h5
  | pend p fns st evs h1 h2 ih => exact .pend p' fns st evs h1 (ih he)
  | arule p p1 q e qE nm hv l tE gt vE fns fns' top st evs h1 h2 h3 h4 h5 h6 h7 h8 h9 h10 h11 h12 h13 h14 h15 _ => exact .arule p' p1 q e qE nm hv l tE gt vE fns fns' top st evs h1 h2 (he.trans h3) h4 h5 h6 h7 h8 h9 h10 h11 h12 h13 h14 h15
  | eat p p1 q fns st evs h1 h2 h3 h4 h5 _ => exact .eat p' p1 q fns st evs h1 (he.trans h2) h3 h4 h5

def EvGood (e : Ev) : Prop := (e.1 = 2 ∨ e.1 = 3 ∨ e.1 = 4 ∨ e.1 = 6 ∨ e.1 = 7 ∨ e.1 = 8) ∧ e.2.1.length ≤ 1000000 ∧ (bars (e.2.2.map Tok.bs)).length ≤ 1000000
/-- What is read is what is wanted, piece by piece. -/
inductive Rel : List Ev → List Pc → Prop where
  | nil : Rel [] []
  | cons (e : Ev) (q : Pc) (es : List Ev) (qs : List Pc) : EvGood e → SameP (evP e) q → Rel es qs → Rel (e :: es) (q :: qs)
def Small (st : List Tok) : Prop := (bars (st.map Tok.bs)).length ≤ 1000000
/-- From a place on these pieces are read, whatever the buffer holds. -/
def Cont (X : Lx) (p : Nat) (fns : List Nat) (qs : List Pc) : Prop := ∀ st, Small st → ∃ evs, SStr X p false fns st evs ∧ Rel evs qs
theorem Cont.blanks {X : Lx} {g : List UInt8} {a : Nat} {fns : List Nat} {qs : List Pc} (h : Cont X (a + g.length) fns qs) (hg : AtT X.t g a) (hw : ∀ i, i < g.length → isWS (byte g i) = true) : Cont X a fns qs := by
  intro st hs
  obtain ⟨evs, h1, h2⟩ := h st hs
  exact ⟨evs, h1.blanks (span_blanks hg hw), h2⟩
theorem gap_neu {X : Lx} {st : Int} {c : UInt8} {e : Nat} (hc : Neu (c.toNat : Int)) (h : AtT X.t (gapL st ++ [c]) e) : Neu (byte X.t e) := by
  have h0 := h.byte 0 (by simp)
  rw [Nat.add_zero] at h0
  rw [h0]
  unfold gapL gapS
  by_cases h1 : st = 0
  · rw [if_pos h1]; exact hc
  · rw [if_neg h1]
    by_cases h2 : st = 1
    · rw [if_pos h2]; exact .inr (.inl rfl)
    · rw [if_neg h2]; exact .inr (.inr (.inr (.inr (.inl rfl))))
theorem at_byte {X : Lx} {c : UInt8} {r : List UInt8} {a : Nat} (h : AtT X.t (c :: r) a) : byte X.t a = c.toNat := by
  have := h.byte 0 (by simp)
  rw [Nat.add_zero] at this
  exact this
/-- One byte behind blanks. -/
theorem gap_tok {X : Lx} {st : Int} {c : UInt8} {tt : Int} {a : Nat} (hc : ((c.toNat : Int), tt) ∈ [((40 : Int), (28 : Int)), (41, 29), (91, 26), (93, 27), (123, 30), (125, 31)]) (hw : isWS (c.toNat : Int) = false) (h : AtT X.t (gapL st ++ [c]) a) :
    spanEnd X.t isWS a = a + (gapL st).length ∧ Tk X.t (a + (gapL st).length) tt (a + (gapL st).length + 1) ∧ seg X.t (a + (gapL st).length) (a + (gapL st).length + 1) = [c] := by
  have hb := at_byte h.right
  refine ⟨?_, .br _ tt hb hc, ?_⟩
  · rw [span_blanks h.left (gapL_ws st)]
    exact spanEnd_stop (f := isWS) (by rw [hb]; exact hw)
  · obtain ⟨A, B, h1, h2⟩ := h.right
    unfold Css.seg
    rw [h1, ← h2]
    simp
theorem at_seg {T l : List UInt8} {a : Nat} (h : AtT T l a) : Css.seg T a (a + l.length) = l := by
  obtain ⟨A, B, rfl, rfl⟩ := h
  unfold Css.seg
  simp

theorem SameP.refl (q : Pc) : SameP q q := ⟨rfl, fun _ => rfl, fun _ => rfl⟩
theorem evEnd (st : List Tok) (hs : Small st) : EvGood (7, [125], st) ∧ SameP (evP (7, [125], st)) (kEnd, [], []) :=
  ⟨⟨.inr (.inr (.inr (.inr (.inl rfl)))), (by show 1 ≤ 1000000; omega), hs⟩, rfl, fun h => absurd (show 0 < 0 from h) (Nat.lt_irrefl 0), fun h => absurd (show endB kEnd = false from h) (by decide +kernel)⟩
theorem evEndAt (st : List Tok) (hs : Small st) : EvGood (4, [125], st) ∧ SameP (evP (4, [125], st)) (kEndAt, [], []) :=
  ⟨⟨.inr (.inr (.inl rfl)), (by show 1 ≤ 1000000; omega), hs⟩, rfl, fun h => absurd (show 0 < 0 from h) (Nat.lt_irrefl 0), fun h => absurd (show endB kEndAt = false from h) (by decide +kernel)⟩
theorem neu125 : Neu ((125 : UInt8).toNat : Int) := .inr (.inr (.inr (.inr (.inr (.inr rfl)))))
theorem neu123 : Neu ((123 : UInt8).toNat : Int) := .inr (.inr (.inr (.inr (.inr (.inl rfl)))))

section
variable {X : Lx} (st : Int) (hbig : X.t.length ≤ 200000)
include hbig
theorem decls_in : ∀ (ds : List (List UInt8 × List (List UInt8))) (d : List UInt8 × List (List UInt8)) (a : Nat) (fns : List Nat) (qs : List Pc), (∀ y ∈ d :: ds, PropOK y.1 ∧ Vals y.2 ∧ y.2 ≠ []) → fns.getLast? = some 79 →
    AtT X.t (declOne st d ++ (restD st ds ++ (gapL st ++ [125]))) a → Cont X (a + (declOne st d ++ (restD st ds ++ (gapL st ++ [125]))).length) fns.dropLast qs →
    Cont X a fns ((d :: ds).map (pieceOf wtoks) ++ (kEnd, [], []) :: qs) := by
  intro ds
  induction ds with
  | nil =>
    intro d a fns qs hok hl hat hK st0 hs0
    have hd := hok d (by simp)
    have hat1 : AtT X.t (gapL st ++ [125]) (a + (declOne st d).length) := hat.right
    obtain ⟨vals, k1, k2, k3, k4, k5⟩ := decl_str st hbig d a _ hd hat.left rfl (gap_neu neu125 hat1)
    obtain ⟨g1, g2, g3⟩ := gap_tok (tt := 31) (by decide) (by decide) hat1
    have hsm : Small vals := by unfold Small; rw [k4]; exact bars_fit hd.2.1
    obtain ⟨evs, h1, h2⟩ := hK vals hsm
    have e1 : a + (declOne st d ++ (restD st [] ++ (gapL st ++ [125]))).length = a + (declOne st d).length + (gapL st).length + 1 := by simp only [restD, List.flatMap_nil, List.nil_append, List.length_append, List.length_singleton]; omega
    rw [e1] at h1
    refine ⟨(8, d.1, vals) :: (7, [125], vals) :: evs, ?_, ?_⟩
    · have hp := SStr.pend _ fns vals evs hl h1
      have := SStr.decl (X := X) a a (a + d.1.length) _ 31 _ _ vals fns st0 _ hl k1 k2 (k5 31 _ _ (.tk _ 31 _ g1 g2 (by decide) (by decide)) (.inr (.inl rfl))) hp
      rw [k3] at this; exact this
    · refine .cons _ _ _ _ ⟨.inr (.inr (.inr (.inr (.inr rfl)))), by have := hd.1.le; show d.1.length ≤ 1000000; omega, hsm⟩ ?_ (.cons _ _ _ _ (evEnd vals hsm).1 (evEnd vals hsm).2 h2)
      simp only [evP, pieceOf, k4]
      exact SameP.refl _
  | cons d2 ds ih =>
    intro d a fns qs hok hl hat hK st0 hs0
    have hd := hok d (by simp)
    have hR : restD st (d2 :: ds) ++ (gapL st ++ [125]) = [59] ++ (gapL st ++ (declOne st d2 ++ (restD st ds ++ (gapL st ++ [125])))) := by
      simp only [restD, List.flatMap_cons, dsep, List.append_assoc]
    rw [hR] at hat hK
    have hat1 := hat.right
    have b59 : byte X.t (a + (declOne st d).length) = 59 := at_byte hat1
    obtain ⟨vals, k1, k2, k3, k4, k5⟩ := decl_str st hbig d a _ hd hat.left rfl (by rw [b59]; exact Neu.of59)
    have hsm : Small vals := by unfold Small; rw [k4]; exact bars_fit hd.2.1
    have hi := ih d2 (a + (declOne st d).length + 1 + (gapL st).length) fns qs (fun y hy => hok y (List.mem_cons_of_mem _ hy)) hl hat1.right.right (by
      have e1 : a + (declOne st d).length + 1 + (gapL st).length + (declOne st d2 ++ (restD st ds ++ (gapL st ++ [125]))).length = a + (declOne st d ++ ([59] ++ (gapL st ++ (declOne st d2 ++ (restD st ds ++ (gapL st ++ [125])))))).length := by
        simp only [List.length_append, List.length_singleton]; omega
      rw [e1]
      exact hK)
    obtain ⟨evs, h1, h2⟩ := (hi.blanks hat1.right.left (gapL_ws st)) vals hsm
    refine ⟨(8, d.1, vals) :: evs, ?_, ?_⟩
    · have := SStr.decl (X := X) a a (a + d.1.length) _ 24 _ _ vals fns st0 evs hl k1 k2 (k5 24 _ (a + (declOne st d).length + 1) (.tk _ 24 _ (spanEnd_stop (f := isWS) (by rw [b59]; rfl)) (.one 59 24 b59 (by decide)) (by decide) (by decide)) (.inl rfl)) h1
      rw [k3] at this; exact this
    · rw [List.map_cons, List.cons_append]
      refine .cons _ _ _ _ ⟨.inr (.inr (.inr (.inr (.inr rfl)))), by have := hd.1.le; show d.1.length ≤ 1000000; omega, hsm⟩ ?_ h2
      simp only [evP, pieceOf, k4]
      exact SameP.refl _
theorem decls_all (ds : List (List UInt8 × List (List UInt8))) (hok : DsOK ds) (a : Nat) (fns : List Nat) (qs : List Pc) (hl : fns.getLast? = some 79) (hat : AtT X.t (dtext st ds ++ (gapL st ++ [125])) a)
    (hK : Cont X (a + (dtext st ds ++ (gapL st ++ [125])).length) fns.dropLast qs) : Cont X a fns (ds.map (pieceOf wtoks) ++ (kEnd, [], []) :: qs) := by
  cases ds with
  | nil =>
    intro st0 hs0
    have hat1 : AtT X.t (gapL st ++ [125]) a := hat
    obtain ⟨g1, g2, g3⟩ := gap_tok (tt := 31) (by decide) (by decide) hat1
    obtain ⟨evs, h1, h2⟩ := hK st0 hs0
    have e1 : a + (dtext st [] ++ (gapL st ++ [125])).length = a + (gapL st).length + 1 := by simp only [dtext, List.nil_append, List.length_append, List.length_singleton]; omega
    rw [e1] at h1
    exact ⟨(7, [125], st0) :: evs, .dend _ _ _ fns st0 evs hl g1 g2 g3 h1, .cons _ _ _ _ (evEnd st0 hs0).1 (evEnd st0 hs0).2 h2⟩
  | cons d ds =>
    have e : dtext st (d :: ds) ++ (gapL st ++ [125]) = declOne st d ++ (restD st ds ++ (gapL st ++ [125])) := by
      rw [← List.append_assoc (declOne st d)]; rfl
    rw [e] at hat hK
    exact decls_in st hbig ds d a fns qs hok.ok hl hat hK
end
section
variable {X : Lx}
theorem sel_toks {x : List UInt8} (h : SelT x) {a : Nat} (hs : Stands X.t x a) : ∃ tt q l lv2, shift a (stoks x) = (tt, a, q) :: l ∧ spanEnd X.t isWS a = a ∧ Tk X.t a tt q ∧ RuleK tt ∧ tt ≠ 20 ∧ Lv 0 tt lv2 ∧ Bal lv2 l ∧ Toks X q l (a + x.length) := by
  obtain ⟨s1, s2, s3, s4⟩ := stoks_spec h
  have hT := Toks.word hs s2 fun k hk => by
    obtain ⟨v1, v2⟩ := s3 k hk
    exact ⟨by unfold Sk at v1; omega, v2⟩
  have hb := s4.shift a
  rw [Nat.add_zero] at hT
  generalize hL : shift a (stoks x) = L at hT hb
  generalize he : a + x.length = e at hT
  cases hT with
  | nil _ =>
    exact absurd (List.map_eq_nil_iff.1 hL) s1
  | cons _ p1 tt q l _ h1 h2 h3 h4 h5 =>
    obtain ⟨ts, hts⟩ : ∃ ts, ts = stoks x := ⟨_, rfl⟩
    rw [← hts] at hL s3 s2 s1
    cases ts with
    | nil => exact absurd rfl s1
    | cons k ts =>
      simp only [shift, List.map_cons, List.cons.injEq, Prod.mk.injEq] at hL
      obtain ⟨⟨e1, e2, e3⟩, e4⟩ := hL
      have hk0 : k.2.1 = 0 := by cases s2 with | cons _ _ _ _ _ _ _ _ => rfl
      rw [hk0, Nat.add_zero] at e2
      subst e2
      have hsk := (s3 k (by simp)).1
      rw [e1] at hsk
      cases hb with
      | cons _ d' _ _ b1 b2 =>
        refine ⟨tt, q, l, d', rfl, h1, h2, ?_, h3, b1, b2, he ▸ h5⟩
        unfold Sk at hsk
        unfold RuleK
        refine ⟨?_, ?_, ?_, ?_, ?_, ?_, ?_⟩ <;> exact beq_eq_false_iff_ne.2 (by omega)
theorem sel_small {x : List UInt8} (h : SelT x) : (bars (toks stoks [x])).length ≤ 1000000 := by
  have hf : ∀ y ∈ [x], Fine y (stoks y) := fun y hy => by
    rcases List.mem_cons.1 hy with rfl | hy
    · exact stoks_fine h
    · cases hy
  have h1 := bars_len (toks stoks [x]) fun y hy => (toks_fit hf y hy).2
  have h2 := toks_len hf
  simp only [List.length_singleton] at h2
  omega
end
section
variable {X : Lx} (st : Int) (hbig : X.t.length ≤ 200000)
include hbig
theorem rule_in (p : PT) (hp : RuleOK p) (a : Nat) (fns : List Nat) (qs : List Pc) (top : Nat) (hl : fns.getLast? = some top) (htop : top = 39 ∨ top = 75) (hfl : fns.length ≤ 1000)
    (hat : AtT X.t (p.name ++ (gapL st ++ ([123] ++ (gapL st ++ (dtext st p.decls ++ (gapL st ++ [125])))))) a) (hK : Cont X (a + (p.name ++ (gapL st ++ ([123] ++ (gapL st ++ (dtext st p.decls ++ (gapL st ++ [125])))))).length) fns qs) :
    Cont X a fns ((kBegin, [], bars (toks stoks [p.name])) :: (p.decls.map (pieceOf wtoks) ++ (kEnd, [], []) :: qs)) := by
  intro st0 hs0
  have hat1 := hat.right
  have hatG : AtT X.t (gapL st ++ [123]) (a + p.name.length) := by rw [← List.append_assoc] at hat1; exact hat1.left
  have hneu : Neu (byte X.t (a + p.name.length)) := gap_neu neu123 hatG
  have hs := hat.left.stands hneu
  obtain ⟨tt, q, l, lv2, c1, c2, c3, c4, c5, c6, c7, c8⟩ := sel_toks hp.nm hs
  obtain ⟨g1, g2, _⟩ := gap_tok (tt := 30) (by decide) (by decide) hatG
  have hat2 := hat1.right.right
  have hd := decls_all st hbig p.decls hp.ds (a + p.name.length + (gapL st).length + 1 + (gapL st).length) (fns ++ [79]) qs (by simp) (by
      have := hat2.right
      simpa using this) (by
      have e1 : a + p.name.length + (gapL st).length + 1 + (gapL st).length + (dtext st p.decls ++ (gapL st ++ [125])).length = a + (p.name ++ (gapL st ++ ([123] ++ (gapL st ++ (dtext st p.decls ++ (gapL st ++ [125])))))).length := by
        simp only [List.length_append, List.length_singleton]; omega
      rw [List.dropLast_concat, e1]
      exact hK)
  have hd2 := hd.blanks (a := a + p.name.length + (gapL st).length + 1) (by have := hat2.left; simpa using this) (gapL_ws st)
  have htk : (X.toks ((tt, a, q) :: l)).map Tok.bs = toks stoks [p.name] := by
    rw [← c1, toks_bytes hs (ts := stoks p.name) fun k hk => ((stoks_spec hp.nm).2.1.mem k hk).2]
    simp [toks]
  have hsm : Small (X.tok tt a q :: X.toks l) := by
    unfold Small
    rw [show (X.tok tt a q :: X.toks l).map Tok.bs = toks stoks [p.name] from htk]
    exact sel_small hp.nm
  obtain ⟨evs, h1, h2⟩ := hd2 _ hsm
  refine ⟨(6, [], X.tok tt a q :: X.toks l) :: evs, .rule a a q _ _ tt l lv2 _ fns top st0 evs hl htop c2 c3 c4 c5 c6 c7 c8 (.tk _ 30 _ g1 g2 (by decide) (by decide)) hfl h1, .cons _ _ _ _ ⟨.inr (.inr (.inr (.inl rfl))), Nat.zero_le _, hsm⟩ ⟨rfl, fun h => absurd (show 0 < 0 from h) (Nat.lt_irrefl 0), fun _ => ?_⟩ h2⟩
  show bars ((X.tok tt a q :: X.toks l).map Tok.bs) = _
  rw [show (X.tok tt a q :: X.toks l).map Tok.bs = toks stoks [p.name] from htk]
end
end Go.Proofs.YtlglijnaeaonpaaGreatDoor.Css
/- A sheet's text tells the parser its parts: at-rules, blocks, the whole. -/
namespace Go.Proofs.YtlglijnaeaonpaaGreatDoor.Css
open Go.RowKit

/-- The name of an at-rule. -/
structure NmOK (nm : List UInt8) : Prop where
  lo : 0 < nm.length
  le : nm.length ≤ 60
  al : ∀ i, i < nm.length → 97 ≤ byte nm i ∧ byte nm i ≤ 122
theorem nmOK_of {nm : List UInt8} (h0 : 0 < nm.length) (h1 : nm.length ≤ 60) (h2 : ∀ c ∈ nm, 97 ≤ c.toNat ∧ c.toNat ≤ 122) : NmOK nm := by
  refine ⟨h0, h1, fun i hi => ?_⟩
  have := h2 _ (List.getElem_mem hi)
  unfold byte
  rw [List.getD_eq_getElem?_getD, List.getElem?_eq_getElem hi, Option.getD_some]
  omega
theorem StmtN.ok {l : List UInt8} (h : StmtN l) : NmOK l := by
  rcases h with rfl | rfl | rfl <;> exact nmOK_of (by decide) (by decide) (by decide)
theorem BlockN.ok {l : List UInt8} (h : BlockN l) : NmOK l := by
  rcases h with rfl | rfl | rfl <;> exact nmOK_of (by decide) (by decide) (by decide)
theorem StmtN.hash {l : List UInt8} (h : StmtN l) : HashOK l 0 := by
  rcases h with rfl | rfl | rfl
  · exact fun w b off cap hL hb hT => hash_import w b off cap hL hb hT
  · exact fun w b off cap hL hb hT => hash_charset w b off cap hL hb hT
  · exact fun w b off cap hL hb hT => hash_namespace w b off cap hL hb hT
theorem BlockN.hash {l : List UInt8} (h : BlockN l) : ∃ hv, HashOK l hv ∧ (hv = 9733 ∨ hv = 6408 ∨ hv = 8) := by
  rcases h with rfl | rfl | rfl
  · exact ⟨9733, fun w b off cap hL hb hT => hash_media w b off cap hL hb hT, .inl rfl⟩
  · exact ⟨6408, fun w b off cap hL hb hT => hash_supports w b off cap hL hb hT, .inr (.inl rfl)⟩
  · exact ⟨8, fun w b off cap hL hb hT => hash_document w b off cap hL hb hT, .inr (.inr rfl)⟩
theorem NmOK.noBs {l : List UInt8} (h : NmOK l) : NoBs l := fun i hi => by
  rcases Nat.lt_or_ge i l.length with hlt | hge
  · have := h.al i hlt; omega
  · rw [byte_end _ _ hge] at hi; cases hi
theorem NmOK.cap {l : List UInt8} (h : NmOK l) : NoCap (64 :: l) := by
  intro i
  cases i with
  | zero => left; show (64 : Int) < 65; decide
  | succ i =>
    show byte l i < 65 ∨ 90 < byte l i
    rcases Nat.lt_or_ge i l.length with hlt | hge
    · have := h.al i hlt; omega
    · rw [byte_end _ _ hge]; left; decide
theorem wordsL_head {ws : List (List UInt8)} (h : ws ≠ []) : ∃ r, wordsL ws = 32 :: r := by
  cases ws with
  | nil => exact absurd rfl h
  | cons x ws => exact ⟨x ++ wordsL ws, by simp [wordsL]⟩

section
variable {X : Lx} (st : Int) (hbig : X.t.length ≤ 200000)
/-- '@' and a name. -/
theorem at_name {nm : List UInt8} (h : NmOK nm) {a : Nat} (hat : AtT X.t ([64] ++ nm) a) (h32 : byte X.t (a + 1 + nm.length) = 32) : spanEnd X.t isWS a = a ∧ Tk X.t a 3 (a + 1 + nm.length) ∧ seg X.t a (a + 1 + nm.length) = 64 :: nm := by
  have b0 : byte X.t a = 64 := at_byte hat
  have hnm : ∀ i, i < nm.length → byte X.t (a + 1 + i) = byte nm i := fun i hi => hat.right.byte i hi
  have h0 := h.lo
  have b1 := hnm 0 h0
  rw [Nat.add_zero] at b1
  have hal0 := h.al 0 h0
  have hsp : spanEnd X.t isNm (a + 1 + 1) = a + 1 + nm.length := by
    refine span_is rfl (by omega) (fun i h1 h2 => ?_) (by rw [h32]; rfl)
    obtain ⟨k, rfl⟩ : ∃ k, i = a + 1 + k := ⟨i - (a + 1), by omega⟩
    rw [hnm k (by omega)]
    have := h.al k (by omega)
    simp [isNm]; omega
  refine ⟨spanEnd_stop (f := isWS) (by rw [b0]; rfl), ?_, ?_⟩
  · have := Tk.at_ (t := X.t) (p := a) b0 (by rw [b1]; simp [isSt]; omega)
    rw [hsp] at this
    exact this
  · have := at_seg hat
    have e1 : a + ([64] ++ nm).length = a + 1 + nm.length := by rw [List.length_append, List.length_singleton]; omega
    rw [e1] at this
    exact this
theorem at_in (p : PT) (hp : AtOK p) (hv : Vals p.words) (a : Nat) (fns : List Nat) (qs : List Pc) (top : Nat) (hl : fns.getLast? = some top) (htop : top = 39 ∨ top = 75) (hfl : fns.length ≤ 1000)
    (hat : AtT X.t ([64] ++ (p.name ++ (wordsL p.words ++ [59]))) a) (hK : Cont X (a + ([64] ++ (p.name ++ (wordsL p.words ++ [59]))).length) fns qs) :
    Cont X a fns ((kAtk, 64 :: p.name, bars (toks wtoks p.words)) :: qs) := by
  intro st0 hs0
  obtain ⟨r, hr⟩ := wordsL_head hp.ws
  have hatN : AtT X.t ([64] ++ p.name) a := by rw [← List.append_assoc] at hat; exact hat.left
  have hatW : AtT X.t (wordsL p.words ++ [59]) (a + 1 + p.name.length) := hat.right.right
  have h32 : byte X.t (a + 1 + p.name.length) = 32 := by
    have := hatW.left
    rw [hr] at this
    exact at_byte this
  obtain ⟨n1, n2, n3⟩ := at_name hp.nm.ok hatN h32
  have b59 : byte X.t (a + 1 + p.name.length + (wordsL p.words).length) = 59 := at_byte hatW.right
  obtain ⟨L, l1, l2, l3, _⟩ := words_toks p.words _ hv.vt hatW.left (by rw [b59]; exact Neu.of59)
  have hsm : Small (X.toks L) := by unfold Small; rw [l3]; exact bars_fit hv
  obtain ⟨evs, h1, h2⟩ := hK _ hsm
  have e1 : a + ([64] ++ (p.name ++ (wordsL p.words ++ [59]))).length = a + 1 + p.name.length + (wordsL p.words).length + 1 := by
    simp only [List.length_append, List.length_singleton]; omega
  rw [e1] at h1
  have hle := hp.nm.ok.le
  refine ⟨(2, 64 :: p.name, X.toks L) :: evs, .arule a a _ _ _ p.name 0 L 24 2 _ fns fns top st0 evs hl htop n1 n2 n3 hp.nm.ok.cap hp.nm.ok.lo ?_ hp.nm.hash l1 l2 (.tk _ 24 _ (spanEnd_stop (f := isWS) (by rw [b59]; rfl)) (.one 59 24 b59 (by decide)) (by decide) (by decide)) (.inl ⟨rfl, rfl, rfl⟩) hfl h1, .cons _ _ _ _ ⟨.inl rfl, ?_, hsm⟩ ?_ h2⟩
  · have := hp.nm.ok.al 0 hp.nm.ok.lo
    exact beq_eq_false_iff_ne.2 (by omega)
  · show p.name.length + 1 ≤ 1000000
    omega
  · simp only [evP, l3]
    exact SameP.refl _
theorem block_in (p : PT) (hp : BlockOK p) (hv : Vals p.words) (body : List UInt8) (bq : List Pc) (a : Nat) (fns : List Nat) (qs : List Pc) (top : Nat) (hl : fns.getLast? = some top) (htop : top = 39 ∨ top = 75) (hfl : fns.length ≤ 1000)
    (hat : AtT X.t ([64] ++ (p.name ++ (wordsL p.words ++ (gapL st ++ ([123] ++ (gapL st ++ (body ++ (gapL st ++ [125])))))))) a)
    (hK : Cont X (a + ([64] ++ (p.name ++ (wordsL p.words ++ (gapL st ++ ([123] ++ (gapL st ++ (body ++ (gapL st ++ [125])))))))).length) fns qs)
    (hB : ∀ b qs', AtT X.t body b → Cont X (b + body.length) (fns ++ [75]) qs' → Cont X b (fns ++ [75]) (bq ++ qs')) :
    Cont X a fns ((kBeginAt, 64 :: p.name, bars (toks wtoks p.words)) :: (bq ++ (kEndAt, [], []) :: qs)) := by
  intro st0 hs0
  obtain ⟨r, hr⟩ := wordsL_head hp.ws
  have hatN : AtT X.t ([64] ++ p.name) a := by rw [← List.append_assoc] at hat; exact hat.left
  have hatW := hat.right.right
  rw [List.length_singleton] at hatW
  have h32 : byte X.t (a + 1 + p.name.length) = 32 := by
    have := hatW.left
    rw [hr] at this
    exact at_byte this
  obtain ⟨n1, n2, n3⟩ := at_name hp.nm.ok hatN h32
  have hatG : AtT X.t (gapL st ++ [123]) (a + 1 + p.name.length + (wordsL p.words).length) := by
    have := hatW.right
    rw [← List.append_assoc] at this
    exact this.left
  obtain ⟨L, l1, l2, l3, _⟩ := words_toks p.words _ hv.vt hatW.left (gap_neu neu123 hatG)
  obtain ⟨g1, g2, _⟩ := gap_tok (tt := 30) (by decide) (by decide) hatG
  have hatB := hatW.right.right.right
  rw [List.length_singleton] at hatB
  have hatE := hatB.right.right
  obtain ⟨f1, f2, f3⟩ := gap_tok (tt := 31) (by decide) (by decide) hatE
  have e1 : a + ([64] ++ (p.name ++ (wordsL p.words ++ (gapL st ++ ([123] ++ (gapL st ++ (body ++ (gapL st ++ [125])))))))).length = a + 1 + p.name.length + (wordsL p.words).length + (gapL st).length + 1 + (gapL st).length + body.length + (gapL st).length + 1 := by
    simp only [List.length_append, List.length_singleton]; omega
  rw [e1] at hK
  have hE : Cont X (a + 1 + p.name.length + (wordsL p.words).length + (gapL st).length + 1 + (gapL st).length + body.length) (fns ++ [75]) ((kEndAt, [], []) :: qs) := by
    intro st1 hs1
    obtain ⟨evs, h1, h2⟩ := hK st1 hs1
    exact ⟨(4, [125], st1) :: evs, .eat _ _ _ (fns ++ [75]) st1 evs (by simp) f1 f2 f3 (by rw [List.dropLast_concat]; exact h1), .cons _ _ _ _ (evEndAt st1 hs1).1 (evEndAt st1 hs1).2 h2⟩
  have hBB := (hB _ _ hatB.right.left hE).blanks hatB.left (gapL_ws st)
  have hsm : Small (X.toks L) := by unfold Small; rw [l3]; exact bars_fit hv
  obtain ⟨evs, h1, h2⟩ := hBB _ hsm
  obtain ⟨hv0, hh, hh2⟩ := hp.nm.hash
  have hle := hp.nm.ok.le
  refine ⟨(3, 64 :: p.name, X.toks L) :: evs, .arule a a _ _ _ p.name hv0 L 30 3 _ fns (fns ++ [75]) top st0 evs hl htop n1 n2 n3 hp.nm.ok.cap hp.nm.ok.lo ?_ hh l1 l2 (.tk _ 30 _ g1 g2 (by decide) (by decide)) (.inr ⟨rfl, rfl, rfl, hh2⟩) hfl h1, .cons _ _ _ _ ⟨.inr (.inl rfl), ?_, hsm⟩ ?_ h2⟩
  · have := hp.nm.ok.al 0 hp.nm.ok.lo
    exact beq_eq_false_iff_ne.2 (by omega)
  · show p.name.length + 1 ≤ 1000000
    omega
  · simp only [evP, l3]
    exact SameP.refl _
include hbig
/-- One part and the blanks behind it. -/
theorem part_in (d : Nat) (IH : ∀ d', d = d' + 1 → ∀ (ps : List PT), PartsOK d' ps → ∀ (a : Nat) (fns : List Nat) (qs : List Pc) (top : Nat), fns.getLast? = some top → top = 39 ∨ top = 75 → fns.length + d' ≤ 900 → AtT X.t (ptext st d' ps) a → Cont X (a + (ptext st d' ps).length) fns qs → Cont X a fns (ppieces d' ps ++ qs))
    (p : PT) (hv : Vals p.words) (hp : PartOK d p) (a : Nat) (fns : List Nat) (qs : List Pc) (top : Nat) (hl : fns.getLast? = some top) (htop : top = 39 ∨ top = 75) (hfl : fns.length + d ≤ 900)
    (hat : AtT X.t (headT st p (bodyT st d p) ++ gapL st) a) (hK : Cont X (a + (headT st p (bodyT st d p) ++ gapL st).length) fns qs) : Cont X a fns (pieces1 p (bodyP d p) ++ qs) := by
  have hK1 : Cont X (a + (headT st p (bodyT st d p)).length) fns qs := by
    refine Cont.blanks ?_ hat.right (gapL_ws st)
    rw [List.length_append, ← Nat.add_assoc] at hK
    exact hK
  have hat1 := hat.left
  clear hat hK
  rcases hp with h | h | ⟨h, d', hdd, hP⟩
  · have e : headT st p (bodyT st d p) = p.name ++ (gapL st ++ ([123] ++ (gapL st ++ (dtext st p.decls ++ (gapL st ++ [125]))))) := by
      simp only [headT, h.k, cond_true, List.append_assoc]
    rw [e] at hat1 hK1
    have := rule_in st hbig p h a fns qs top hl htop (by omega) hat1 hK1
    simp only [pieces1, h.k, cond_true, List.cons_append, List.append_assoc, List.nil_append]
    exact this
  · have e : headT st p (bodyT st d p) = [64] ++ (p.name ++ (wordsL p.words ++ [59])) := by
      simp only [headT, h.k, kinds.2.2 h.k, cond_true, cond_false, List.append_assoc]
    rw [e] at hat1 hK1
    have := at_in p h hv a fns qs top hl htop (by omega) hat1 hK1
    simp only [pieces1, h.k, kinds.2.2 h.k, cond_true, cond_false, List.cons_append, List.nil_append]
    exact this
  · subst hdd
    have e : headT st p (bodyT st (d' + 1) p) = [64] ++ (p.name ++ (wordsL p.words ++ (gapL st ++ ([123] ++ (gapL st ++ (ptext st d' p.parts ++ (gapL st ++ [125]))))))) := by
      simp only [headT, bodyT, kinds.2.1 h.k, cond_false, List.append_assoc]
    rw [e] at hat1 hK1
    have := block_in st p h hv _ (ppieces d' p.parts) a fns qs top hl htop (by omega) hat1 hK1 fun b qs' hb hc => IH d' rfl p.parts hP b (fns ++ [75]) qs' 75 (by simp) (.inr rfl) (by rw [List.length_append, List.length_singleton]; omega) hb hc
    simp only [pieces1, bodyP, kinds.2.1 h.k, cond_false, List.cons_append, List.append_assoc, List.nil_append]
    exact this
theorem parts_in (d : Nat) : ∀ (ps : List PT), PartsOK d ps → ∀ (a : Nat) (fns : List Nat) (qs : List Pc) (top : Nat), fns.getLast? = some top → top = 39 ∨ top = 75 → fns.length + d ≤ 900 → AtT X.t (ptext st d ps) a → Cont X (a + (ptext st d ps).length) fns qs → Cont X a fns (ppieces d ps ++ qs) := by
  have step : ∀ d, (∀ d', d = d' + 1 → ∀ (ps : List PT), PartsOK d' ps → ∀ (a : Nat) (fns : List Nat) (qs : List Pc) (top : Nat), fns.getLast? = some top → top = 39 ∨ top = 75 → fns.length + d' ≤ 900 → AtT X.t (ptext st d' ps) a → Cont X (a + (ptext st d' ps).length) fns qs → Cont X a fns (ppieces d' ps ++ qs)) →
      ∀ (ps : List PT), (∀ p ∈ ps, Vals p.words ∧ PartOK d p) → ∀ (a : Nat) (fns : List Nat) (qs : List Pc) (top : Nat), fns.getLast? = some top → top = 39 ∨ top = 75 → fns.length + d ≤ 900 → AtT X.t (ptext st d ps) a → Cont X (a + (ptext st d ps).length) fns qs → Cont X a fns (ppieces d ps ++ qs) := by
    intro d IH ps
    induction ps with
    | nil =>
      intro _ a fns qs top _ _ _ _ hK
      rw [ptext_eq] at hK
      rw [ppieces_eq]
      exact hK
    | cons p ps ih =>
      intro hok a fns qs top hl htop hfl hat hK
      have e1 : ptext st d (p :: ps) = (headT st p (bodyT st d p) ++ gapL st) ++ ptext st d ps := by rw [ptext_eq, ptext_eq, List.flatMap_cons]
      have e2 : ppieces d (p :: ps) = pieces1 p (bodyP d p) ++ ppieces d ps := by rw [ppieces_eq, ppieces_eq, List.flatMap_cons]
      rw [e1] at hat hK
      rw [e2, List.append_assoc]
      obtain ⟨hv, hp⟩ := hok p (by simp)
      refine part_in st hbig d IH p hv hp a fns _ top hl htop hfl hat.left ?_
      refine ih (fun x hx => hok x (List.mem_cons_of_mem _ hx)) _ fns qs top hl htop hfl hat.right ?_
      rw [List.length_append, ← Nat.add_assoc] at hK
      exact hK
  induction d with
  | zero => exact fun ps h => step 0 (fun _ h => by omega) ps h.part
  | succ d ih =>
    intro ps h
    refine step (d + 1) (fun d' hd => ?_) ps h.part
    obtain rfl : d = d' := by omega
    exact ih
end
/-- There are no more pieces than bytes. -/
theorem one_len (st : Int) (d : List UInt8 × List (List UInt8)) : 1 ≤ (declOne st d).length := by
  simp only [declOne, declHead, List.length_append, List.length_cons, List.length_nil]; omega
theorem rest_len (st : Int) : ∀ (ds : List (List UInt8 × List (List UInt8))), ds.length ≤ (restD st ds).length
  | [] => Nat.zero_le _
  | d :: ds => by
    have h1 := rest_len st ds
    have h2 := one_len st d
    simp only [restD, List.flatMap_cons, List.length_append, List.length_cons] at h1 ⊢
    omega
theorem dtext_ge (st : Int) (ds : List (List UInt8 × List (List UInt8))) : ds.length ≤ (dtext st ds).length := by
  cases ds with
  | nil => exact Nat.zero_le _
  | cons d ds =>
    have h1 := rest_len st ds
    have h2 := one_len st d
    have e : dtext st (d :: ds) = declOne st d ++ restD st ds := rfl
    rw [e, List.length_append, List.length_cons]
    omega
theorem head_ge {st : Int} {d : Nat} {p : PT} (h : PartOK d p) (body : List UInt8) (bq : List Pc) (hb : bq.length ≤ body.length) : (pieces1 p bq).length ≤ (headT st p body).length := by
  rcases h with h | h | ⟨h, _⟩
  · have h1 := dtext_ge st p.decls
    simp only [pieces1, headT, h.k, cond_true, List.length_append, List.length_cons, List.length_nil, List.length_map]
    omega
  · simp only [pieces1, headT, h.k, kinds.2.2 h.k, cond_true, cond_false, List.length_append, List.length_cons, List.length_nil]
    omega
  · simp only [pieces1, headT, kinds.2.1 h.k, cond_false, List.length_append, List.length_cons, List.length_nil]
    omega
theorem flat_ge {α β γ : Type} (f : α → List β) (g : α → List γ) (l : List α) (h : ∀ x ∈ l, (f x).length ≤ (g x).length) : (l.flatMap f).length ≤ (l.flatMap g).length := by
  induction l with
  | nil => exact Nat.le_refl _
  | cons a l ih =>
    have h1 := h a (by simp)
    have h2 := ih fun x hx => h x (by simp [hx])
    simp only [List.flatMap_cons, List.length_append]
    omega
theorem body_ge (st : Int) : ∀ (d : Nat) (ps : List PT), PartsOK d ps → (ppieces d ps).length ≤ (ptext st d ps).length := by
  intro d
  induction d with
  | zero =>
    intro ps h
    rw [ppieces_eq, ptext_eq]
    refine flat_ge _ _ _ fun p hp => ?_
    rw [List.length_append]
    exact Nat.le_trans (head_ge (h.part p hp).2 (bodyT st 0 p) (bodyP 0 p) (Nat.le_refl 0)) (Nat.le_add_right _ _)
  | succ d ih =>
    intro ps h
    rw [ppieces_eq, ptext_eq]
    refine flat_ge _ _ _ fun p hp => ?_
    rw [List.length_append]
    refine Nat.le_trans ?_ (Nat.le_add_right _ _)
    rcases (h.part p hp).2 with h | h | ⟨h, d', hd, hP⟩
    · have := head_ge (st := st) (d := d) (.inl h) [] [] (Nat.le_refl _)
      simp only [pieces1, headT, h.k, cond_true] at this ⊢
      exact this
    · have := head_ge (st := st) (d := d) (.inr (.inl h)) [] [] (Nat.le_refl _)
      simp only [pieces1, headT, h.k, kinds.2.2 h.k, cond_true, cond_false] at this ⊢
      exact this
    · obtain rfl : d = d' := by omega
      exact head_ge (.inr (.inr ⟨h, d, rfl, hP⟩)) _ _ (ih p.parts hP)
theorem noBs_one1 {c : UInt8} (h : c ≠ 92) : NoBs [c] := noBs_mem.2 fun x hx => by
  rw [List.mem_singleton] at hx
  rw [hx]; exact h
theorem noBs_flatM {α : Type} (f : α → List UInt8) (l : List α) (h : ∀ x ∈ l, NoBs (f x)) : NoBs (l.flatMap f) := noBs_mem.2 fun c hc => by
  obtain ⟨x, hx, hcx⟩ := List.mem_flatMap.1 hc
  exact noBs_mem.1 (h x hx) c hcx
theorem noBs_head {st : Int} {d : Nat} {p : PT} (hv : Vals p.words) (h : PartOK d p) (body : List UInt8) (hb : NoBs body) : NoBs (headT st p body) := by
  have hw := noBs_words p.words fun x hx => (hv.vt x hx).bs
  have hg := noBs_gap st
  have h1 : NoBs [64] := noBs_one1 (by decide)
  have h2 : NoBs [123] := noBs_one1 (by decide)
  have h3 : NoBs [125] := noBs_one1 (by decide)
  have h4 : NoBs [59] := noBs_one1 (by decide)
  rcases h with h | h | ⟨h, _⟩
  · simp only [headT, h.k, cond_true]
    exact noBs_app (noBs_app (noBs_app (noBs_app (noBs_app (noBs_app h.nm.bs hg) h2) hg) (noBs_dtext st _ h.ds)) hg) h3
  · simp only [headT, h.k, kinds.2.2 h.k, cond_true, cond_false]
    exact noBs_app (noBs_app (noBs_app h1 h.nm.ok.noBs) hw) h4
  · simp only [headT, kinds.2.1 h.k, cond_false]
    exact noBs_app (noBs_app (noBs_app (noBs_app (noBs_app (noBs_app (noBs_app (noBs_app h1 h.nm.ok.noBs) hw) hg) h2) hg) hb) hg) h3
theorem noBs_ptext (st : Int) : ∀ (d : Nat) (ps : List PT), PartsOK d ps → NoBs (ptext st d ps) := by
  intro d
  induction d with
  | zero =>
    intro ps h
    rw [ptext_eq]
    exact noBs_flatM _ _ fun p hp => noBs_app (noBs_head (h.part p hp).1 (h.part p hp).2 _ noBs_nil) (noBs_gap st)
  | succ d ih =>
    intro ps h
    rw [ptext_eq]
    refine noBs_flatM _ _ fun p hp => noBs_app ?_ (noBs_gap st)
    obtain ⟨hv, h⟩ := h.part p hp
    rcases h with h | h | ⟨h, d', hd, hP⟩
    · have := noBs_head (st := st) (d := d) hv (.inl h) [] noBs_nil
      simp only [headT, h.k, cond_true] at this ⊢
      exact this
    · have := noBs_head (st := st) (d := d) hv (.inr (.inl h)) [] noBs_nil
      simp only [headT, h.k, kinds.2.2 h.k, cond_true, cond_false] at this ⊢
      exact this
    · obtain rfl : d = d' := by omega
      exact noBs_head hv (.inr (.inr ⟨h, d, rfl, hP⟩)) _ (ih p.parts hP)
/-- What is read agrees with what is wanted. -/
def Agree (qs : List Pc) (ps : List Pc) : Prop := ps.length = qs.length ∧ ∀ i (h1 : i < ps.length) (h2 : i < qs.length), SameP ps[i] qs[i]
theorem Rel.agree {evs : List Ev} {qs : List Pc} (h : Rel evs qs) : Agree qs (evs.map evP) := by
  induction h with
  | nil => exact ⟨rfl, fun i h => absurd h (by simp)⟩
  | cons e q es qs _ h2 _ ih =>
    refine ⟨by simp only [List.map_cons, List.length_cons]; have := ih.1; rw [List.length_map] at this; rw [List.length_map]; omega, fun i h3 h4 => ?_⟩
    cases i with
    | zero => exact h2
    | succ i => exact ih.2 i (by simpa using h3) (by simpa using h4)
theorem Rel.good {evs : List Ev} {qs : List Pc} (h : Rel evs qs) : ∀ e ∈ evs, EvGood e := by
  induction h with
  | nil => intro e he; cases he
  | cons e q es qs h1 _ _ ih =>
    intro x hx
    rcases List.mem_cons.1 hx with rfl | hx
    · exact h1
    · exact ih x hx
theorem sheet_plain (st : Int) (ps : List PT) (hok : PartsOK 3 ps) (hlen : (ptext st 3 ps).length ≤ 20000) (B : Nat) (w0 : World) (hT : HTab w0) (hB1 : 1 < B) (X : Lx) (pp : Nat) (sv : Value) (hX : X.t = ptext st 3 ps) :
    ∃ F evs, EvOK evs ∧ Agree (ppieces 3 ps) (evs.map evP) ∧ Mach X pp B w0 F ∧ F 0 (r1 sv) [] [39] evs := by
  have hbig : X.t.length ≤ 200000 := by rw [hX]; omega
  have hend : Cont X X.t.length [39] [] := fun st0 _ => ⟨[], .nil _ _ (spanEnd_stop (f := isWS) (by rw [byte_end _ _ (Nat.le_refl _)]; rfl)), .nil⟩
  have hc := parts_in st hbig 3 ps hok 0 [39] [] 39 rfl (.inl rfl) (by decide) ⟨[], [], by rw [hX]; simp, rfl⟩ (by rw [Nat.zero_add, ← hX]; exact hend)
  rw [List.append_nil] at hc
  obtain ⟨evs, h1, h2⟩ := hc [] (by unfold Small; decide)
  have ha := h2.agree
  have hl := body_ge st 3 ps hok
  refine ⟨SheetF X, evs, ⟨?_, fun e he => (h2.good e he).1, fun e he => (h2.good e he).2.1, fun e he => (h2.good e he).2.2⟩, ha, sheet_mach X pp B w0 hT hB1, h1, rfl, hbig⟩
  have := ha.1
  rw [List.length_map] at this
  omega
end Go.Proofs.YtlglijnaeaonpaaGreatDoor.Css
