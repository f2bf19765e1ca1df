/- The parser of a whole sheet is made. -/
import Derived.Test.YtlglijnaeaonpaaGreatDoorNt
import Derived.Test.YtlglijnaeaonpaaGreatDoorNaf
set_option linter.all false
/- The parser of a whole sheet is made. -/
namespace Go.Proofs.YtlglijnaeaonpaaGreatDoor.Css
open Go.RowKit

/-- A new parser for a sheet. -/
def r1 (st : Value) : PR := ⟨st, 0, .slice none 0 0, 0, .slice none 0 0, 0, false, false, false, true⟩
set_option maxRecDepth 100000 in
set_option maxHeartbeats 2000000 in
theorem newSheet_any : NewParAny false r1 [39] := by
  intro B w g b off cap rv eof l hB0 hBg hBb hBw hl hc hn hin htx hio
  obtain ⟨i0, hi, hz0, hz1, hz2⟩ := info_parts info88
  have km := made4
  have HIN := Lib.hid (show _ ∧ _ ∧ _ from ⟨hin, htx, hio⟩)
  clear hin htx hio
  go_enter Tryz.func18, Tryz.ntmps18
  go_upto_region 5 with (go_at_call 37; ((with_reducible refine (newLexer_any _ _).mono ?_); rintro e w' ⟨rfl, rfl⟩))
  have hbel3 : Below B w (((w.alloc (.cells #[.pointer (some ⟨g, 0, none⟩)] 93)).alloc (.cells #[.nilFunc, .nilFunc, .nilFunc, .nilFunc] 88)).alloc (.cells #[.pointer (some ⟨w.heap.size, 0, none⟩), .slice (some ⟨w.heap.size + 1, 0, none⟩) 0 4, .string ⟨#[]⟩, .int .i64 0, .slice none 0 0, .int .i64 0, .slice none 0 0, .int .u32 0, .bool false, .bool false, .bool false, .bool false, .bool false] 80)) :=
    (((Below.refl B w).alloc hBw _).alloc (by simp; omega) _).alloc (by simp; omega) _
  have hbw3 : Below w.heap.size w (((w.alloc (.cells #[.pointer (some ⟨g, 0, none⟩)] 93)).alloc (.cells #[.nilFunc, .nilFunc, .nilFunc, .nilFunc] 88)).alloc (.cells #[.pointer (some ⟨w.heap.size, 0, none⟩), .slice (some ⟨w.heap.size + 1, 0, none⟩) 0 4, .string ⟨#[]⟩, .int .i64 0, .slice none 0 0, .int .i64 0, .slice none 0 0, .int .u32 0, .bool false, .bool false, .bool false, .bool false, .bool false] 80)) :=
    (((Below.refl _ w).alloc (Nat.le_refl _) _).alloc (by simp) _).alloc (by simp; omega) _
  obtain ⟨w3, hw3⟩ : ∃ w3, w3 = (((w.alloc (.cells #[.pointer (some ⟨g, 0, none⟩)] 93)).alloc (.cells #[.nilFunc, .nilFunc, .nilFunc, .nilFunc] 88)).alloc (.cells #[.pointer (some ⟨w.heap.size, 0, none⟩), .slice (some ⟨w.heap.size + 1, 0, none⟩) 0 4, .string ⟨#[]⟩, .int .i64 0, .slice none 0 0, .int .i64 0, .slice none 0 0, .int .u32 0, .bool false, .bool false, .bool false, .bool false, .bool false] 80)) := ⟨_, rfl⟩
  have hsz3 : w3.heap.size = w.heap.size + 3 := by rw [hw3]; simp
  have hpp3 : w3.heap[w.heap.size + 1 + 1]? = some (.cells #[.pointer (some ⟨w.heap.size, 0, none⟩), .slice (some ⟨w.heap.size + 1, 0, none⟩) 0 4, .string ⟨#[]⟩, .int .i64 0, .slice none 0 0, .int .i64 0, .slice none 0 0, .int .u32 0, .bool false, .bool false, .bool false, .bool false, .bool false] 80 (0, 0)) := by
    rw [hw3]
    have := alloc_new ((w.alloc (.cells #[.pointer (some ⟨g, 0, none⟩)] 93)).alloc (.cells #[.nilFunc, .nilFunc, .nilFunc, .nilFunc] 88)) (.cells #[.pointer (some ⟨w.heap.size, 0, none⟩), .slice (some ⟨w.heap.size + 1, 0, none⟩) 0 4, .string ⟨#[]⟩, .int .i64 0, .slice none 0 0, .int .i64 0, .slice none 0 0, .int .u32 0, .bool false, .bool false, .bool false, .bool false, .bool false] 80)
    simpa using this
  have hst3 : w3.heap[w.heap.size + 1]? = some (.cells #[.nilFunc, .nilFunc, .nilFunc, .nilFunc] 88 (0, 0)) := by
    rw [hw3, Below.heap_alloc _ _ _ (by simp)]
    have := alloc_new (w.alloc (.cells #[.pointer (some ⟨g, 0, none⟩)] 93)) (.cells #[.nilFunc, .nilFunc, .nilFunc, .nilFunc] 88)
    simpa using this
  have hlx3 : w3.heap[w.heap.size]? = some (.cells #[.pointer (some ⟨g, 0, none⟩)] 93 (0, 0)) := by
    rw [hw3, Below.heap_alloc _ _ _ (by simp; omega), Below.heap_alloc _ _ _ (by simp)]
    exact alloc_new _ _
  rw [← hw3] at hbel3 hbw3 ⊢
  clear hw3
  have hown3 : Own w3 B 88 1 (.slice (some ⟨w.heap.size + 1, 0, none⟩) 0 4) 0 [] := ⟨rfl, .inr ⟨_, 0, 4, _, rfl, by omega, hst3, by simp, fun j u hj => by simp at hj, by omega, by unfold maxLen; omega⟩⟩
  have c1 : w3.cell? ⟨w.heap.size + 1 + 1, 1, none⟩ = some (.slice (some ⟨w.heap.size + 1, 0, none⟩) 0 4) := by rw [cell_at hpp3]; rfl
  have HH := Lib.hid (show _ ∧ _ ∧ _ ∧ _ ∧ _ from ⟨hpp3, hst3, hlx3, hbel3, hbw3⟩)
  have HO := Lib.hid hown3
  have HSZ := Lib.hid hsz3
  clear hpp3 hst3 hlx3 hbel3 hbw3 hown3 hsz3
  go_wp2_with (at_builtin; refine wpList_append_Own _ rfl (.tmp 27) (.tmp 28) 78 rfl B 88 i0 .nilFunc 1 8 Tryz.underlying78 hi hz0 hz1 hz2 rfl (by decide) _ 0 [] rfl (HO.out.keep fun k hk => (Below.heap_alloc _ _ _ (HO.out.lt k hk).2.1)) ⟨w3.heap.size, 0, none⟩ 1 1 [fnVal 39] rfl rfl ?q1 ?q2 (by unfold maxLen; omega) (by omega) ?q3 ?q4)
  case q1 =>
    intro j u hj
    have hj1 : j < 1 := (List.getElem?_eq_some_iff.1 hj).1
    obtain rfl : j = 0 := by omega
    cases hj
    exact new_cell _ _ _
  case q2 => intro u hu; rw [List.mem_singleton.1 hu]; rfl
  case q3 => have := HSZ.out; simp; omega
  case q4 =>
  intro v' w5 hown5 hgr
  have hk : ∀ (k : Nat) (cs : Array Value) (t : TypeId) (f : Nat × Nat), w3.heap[k]? = some (Obj.cells cs t f) → t ≠ 88 → w5.heap[k]? = some (Obj.cells cs t f) := by
    intro k cs t f hk ht
    have hlt := (Array.getElem?_eq_some_iff.1 hk).1
    rw [hgr.block k (by simp; omega) (fun e => ?_), Below.heap_alloc _ _ _ hlt]
    · exact hk
    · obtain ⟨_, _, cur, hc'⟩ := HO.out.lt k e.symm
      exact ht (ty_eq hk hc')
  obtain ⟨hpp3, hst3, hlx3, hbel3, hbw3⟩ := HH.out
  have hpp5 := hk _ _ _ _ hpp3 (by decide)
  have hlx5 := hk _ _ _ _ hlx3 (by decide)
  obtain ⟨hin, ⟨cs, f, htx, htx2⟩, hio⟩ := HIN.out
  have hlt : ∀ {k : Nat} {o : Obj}, w.heap[k]? = some o → k < w.heap.size := fun h => (Array.getElem?_eq_some_iff.1 h).1
  have hin5 := hk _ _ _ _ (by rw [hbw3.block _ (hlt hin)]; exact hin) (by decide)
  have htx5 := hk _ _ _ _ (by rw [hbw3.block _ (hlt htx)]; exact htx) (by decide)
  have hb5 : Below B w w5 := hbel3.trans ((((Below.refl B w3).alloc (by have := HSZ.out; omega) _)).grown hgr (by have := HSZ.out; simp; omega) (fun k hk' => (HO.out.lt k hk').1))
  have hio5 : w5.cell? ⟨0, 0, none⟩ = some (.iface 198 (.pointer (some eof))) := (hb5.cell (p := ⟨0, 0, none⟩) hB0).trans hio
  have hshape : ∃ a n c, v' = .slice a n c := by
    rcases hown5.2 with ⟨h1, h2⟩ | ⟨g, off, cap, cur, h1, _⟩
    · exact ⟨_, _, _, h1⟩
    · exact ⟨_, _, _, h1⟩
  obtain ⟨sa, sn, sc, rfl⟩ := hshape
  have c5 : w5.cell? ⟨w.heap.size + 1 + 1, 1, none⟩ = some (.slice (some ⟨w.heap.size + 1, 0, none⟩) 0 4) := by rw [cell_at hpp5]; rfl
  have f5 := frozen_at hpp5 1
  have c12 : w5.cell? ⟨w.heap.size + 1 + 1, 12, none⟩ = some (.bool false) := by rw [cell_at hpp5]; rfl
  have f12 := frozen_at hpp5 12
  have hs5 := hb5.size
  have HALL := Lib.hid (show _ ∧ _ ∧ _ ∧ _ ∧ _ ∧ _ ∧ _ from ⟨hpp5, hlx5, hin5, htx5, hio5, hb5, hown5⟩)
  have HT2 := Lib.hid htx2
  clear hpp5 hlx5 hin5 htx5 hio5 hb5 hown5 hgr hk hpp3 hst3 hlx3 hbel3 hbw3 hin htx htx2 hio hlt c1 km
  go_wp2
  go_ret
  obtain ⟨hpp5, hlx5, hin5, htx5, hio5, hb5, hown5⟩ := HALL.out
  have hgb : b ≠ g := by rintro rfl; exact absurd (ty_eq hin5 htx5) (by decide)
  have hlg : w.heap.size ≠ g := by intro e; rw [e] at hlx5; exact absurd (ty_eq hin5 hlx5) (by decide)
  have hpg : w.heap.size + 1 + 1 ≠ g := by intro e; rw [e] at hpp5; exact absurd (ty_eq hin5 hpp5) (by decide)
  have hpb : w.heap.size + 1 + 1 ≠ b := by intro e; rw [e] at hpp5; exact absurd (ty_eq htx5 hpp5) (by decide)
  have ho : ∀ k, k ≠ w.heap.size + 1 + 1 → ((w5.setCell ⟨w.heap.size + 1 + 1, 1, none⟩ (.slice sa sn sc)).setCell ⟨w.heap.size + 1 + 1, 12, none⟩ (.bool true)).heap[k]? = w5.heap[k]? := fun k hk => (Below.heap_setCell _ _ _ _ hk).trans (Below.heap_setCell _ _ _ _ hk)
  have htx6 : ((w5.setCell ⟨w.heap.size + 1 + 1, 1, none⟩ (.slice sa sn sc)).setCell ⟨w.heap.size + 1 + 1, 12, none⟩ (.bool true)).heap[b]? = some (Obj.cells cs 5 f) := (ho b (Ne.symm hpb)).trans htx5
  have hb6 : Below B w ((w5.setCell ⟨w.heap.size + 1 + 1, 1, none⟩ (.slice sa sn sc)).setCell ⟨w.heap.size + 1 + 1, 12, none⟩ (.bool true)) := (hb5.setCell (p := ⟨w.heap.size + 1 + 1, 1, none⟩) (by show B ≤ w.heap.size + 1 + 1; omega) _).setCell (p := ⟨w.heap.size + 1 + 1, 12, none⟩) (by show B ≤ w.heap.size + 1 + 1; omega) _
  refine ⟨⟨w.heap.size, g, b, off, cap, rv, eof, l⟩, w.heap.size + 1 + 1, .slice sa sn sc, rfl, rfl, rfl, ⟨⟨?_, ⟨cs, f, htx6⟩, ?_, hBw, hBg, hBb, by omega, hB0, hn, ?_⟩, Own.nil _ _ _ _, fun k hk => (by cases hk)⟩, hb6⟩
  · exact {
      lex := (ho w.heap.size (by omega)).trans hlx5
      inp := (ho _ (Ne.symm hpg)).trans hin5
      txt := fun i hi => by rw [cell_at htx6]; exact HT2.out i hi
      io := (hb6.cell (p := ⟨0, 0, none⟩) hB0).trans (HIN.out.2.2)
      nb := hgb
      nl := hlg
      n0 := by show 0 ≠ g; omega
      hg := (Array.getElem?_eq_some_iff.1 ((ho _ (Ne.symm hpg)).trans hin5)).1
      pl := Nat.zero_le _
      sp := Nat.le_refl _
      cp := hc
      big := hl
      keep := Keep.refl _ _ }
  · have h1 := heap_set (i := 1) (v := .slice sa sn sc) hpp5
    rw [heap_set h1]; rfl
  · refine hown5.keep fun k hk => ho k ?_
    obtain ⟨_, _, cur, hc'⟩ := hown5.lt k hk
    rintro rfl
    exact absurd (ty_eq hpp5 hc') (by decide)
end Go.Proofs.YtlglijnaeaonpaaGreatDoor.Css
/- The parser's machine for the parts of a sheet. -/
namespace Go.Proofs.YtlglijnaeaonpaaGreatDoor.Css
open Go.RowKit

/-- The parts of a sheet that are to come: from place p on; whether a brace has been read ahead; the states; the buffer's tokens. -/
inductive SStr (X : Lx) : Nat → Bool → List Nat → List Tok → List Ev → Prop where
  | nil (p : Nat) (st : List Tok) : spanEnd X.t isWS p = X.t.length → SStr X p false [39] st []
  | rule (p p1 q e qE : Nat) (tt : Int) (l : List (Int × Nat × Nat)) (lv2 : Nat) (vE : Value) (fns : List Nat) (top : Nat) (st : List Tok) (evs : List Ev) : fns.getLast? = some top → top = 39 ∨ top = 75 → spanEnd X.t isWS p = p1 → Tk X.t p1 tt q → RuleK tt → tt ≠ 20 → Lv 0 tt lv2 → Bal lv2 l → Toks X q l e → Pop X e 30 vE qE → fns.length ≤ 1000 →
      SStr X qE false (fns ++ [79]) (X.tok tt p1 q :: X.toks l) evs → SStr X p false fns st ((6, [], X.tok tt p1 q :: X.toks l) :: evs)
  | decl (p p1 q e : Nat) (tE : Int) (vE : Value) (qE : Nat) (vals : List Tok) (fns : List Nat) (st : List Tok) (evs : List Ev) : fns.getLast? = some 79 → spanEnd X.t isWS p = p1 → Tk X.t p1 1 q → DeclIn X q (X.tok 1 p1 q) vals e tE vE qE →
      SStr X qE (tE == 31) fns vals evs → SStr X p false fns st ((8, seg X.t p1 q, vals) :: evs)
  | dend (p p1 q : Nat) (fns : List Nat) (st : List Tok) (evs : List Ev) : fns.getLast? = some 79 → spanEnd X.t isWS p = p1 → Tk X.t p1 31 q → seg X.t p1 q = [125] → SStr X q false fns.dropLast st evs → SStr X p false fns st ((7, [125], st) :: evs)
  | pend (p : Nat) (fns : List Nat) (st : List Tok) (evs : List Ev) : fns.getLast? = some 79 → SStr X p false fns.dropLast st evs → SStr X p true fns st ((7, [125], st) :: evs)
  | arule (p p1 q e qE : Nat) (nm : List UInt8) (hv : Int) (l : List (Int × Nat × Nat)) (tE gt : Int) (vE : Value) (fns fns' : List Nat) (top : Nat) (st : List Tok) (evs : List Ev) : fns.getLast? = some top → top = 39 ∨ top = 75 → spanEnd X.t isWS p = p1 → Tk X.t p1 3 q → seg X.t p1 q = 64 :: nm → NoCap (64 :: nm) → 0 < nm.length → (byte nm 0 == 45) = false → HashOK nm hv →
      Toks X q l e → Bal 0 l → Pop X e tE vE qE → AEnd tE gt hv fns fns' → fns.length ≤ 1000 → SStr X qE false fns' (X.toks l) evs → SStr X p false fns st ((gt, 64 :: nm, X.toks l) :: evs)
  | eat (p p1 q : Nat) (fns : List Nat) (st : List Tok) (evs : List Ev) : fns.getLast? = some 75 → spanEnd X.t isWS p = p1 → Tk X.t p1 31 q → seg X.t p1 q = [125] → SStr X q false fns.dropLast st evs → SStr X p false fns st ((4, [125], st) :: evs)
def SheetF (X : Lx) (p : Nat) (r : PR) (toks : List Tok) (fns : List Nat) (evs : List Ev) : Prop := SStr X p r.pe fns (toks.filter nb) evs ∧ r.level = 0 ∧ X.t.length ≤ 200000

theorem last_pos {fns : List Nat} {top : Nat} (h : fns.getLast? = some top) : 0 < fns.length := by
  cases fns with
  | nil => cases h
  | cons _ _ => exact Nat.succ_pos _
/-- What a part's call is to leave. -/
def CP (X : Lx) (bs : List UInt8) (vals : List Tok) (evs : List Ev) (w' : World) (p' : Nat) (r' : PR) (toks' : List Tok) (fns' : List Nat) : Prop := Slb w' r'.data bs ∧ toks'.filter nb = vals ∧ SheetF X p' r' toks' fns' evs
theorem CP.drewN {X : Lx} {bs : List UInt8} {vals : List Tok} {evs : List Ev} {w : World} {p : Nat} {r : PR} {toks : List Tok} {fns : List Nat} (h : CP X bs vals evs w p r toks fns) (n : Nat) : CP X bs vals evs (w.drewN n) p r toks fns :=
  ⟨h.1.below ⟨rfl, rfl, rfl, Nat.le_refl _, fun _ _ => rfl⟩, h.2⟩
theorem brace_slb {X : Lx} {pp B : Nat} {w : World} {p : Nat} {r : PR} {fns : List Nat} (h : PB X pp B w p r fns) {p1 q : Nat} (hq : q ≤ X.t.length) (hs : seg X.t p1 q = [125]) (hd : r.data = (X.tok 31 p1 q).val) : Slb w r.data [125] := by
  have hok := h.tok 31 (p := p1) hq
  rw [hd]
  have hb : (X.tok 31 p1 q).bs = [125] := hs
  refine ⟨_, _, by unfold Tok.val; rw [hb], fun _ => ⟨_, _, rfl, ?_⟩⟩
  have := hok.lies
  rw [hb] at this
  exact this

theorem sheet_mach (X : Lx) (pp B : Nat) (w0 : World) (hT : HTab w0) (hB1 : 1 < B) : Mach X pp B w0 (SheetF X) where
  nil := by
    intro p r toks fns w hF hP _
    obtain ⟨hD, hlv, _⟩ := hF
    obtain ⟨pe, hpe⟩ : ∃ pe, pe = r.pe := ⟨_, rfl⟩
    rw [← hpe] at hD
    cases hD with
    | nil _ _ he =>
      refine next_pop39 X pp B w p r toks [39] hP hpe.symm 0 (.slice none 0 0) X.t.length (.end_ he) rfl 0 _ (fun w p r t f n h => h) fun w1 hP1 hA1 => ?_
      exact (sheet_end X pp B w1 _ _ _ _ hP1 rfl).mono fun e w' ⟨h1, h2⟩ => by
        subst h2
        exact ⟨h1, _, _, _, _, hP1, Adv.refl _ _, rfl, _, _, _, rfl⟩
  cons := by
    intro p r toks fns w ev evs hF hP hBw
    obtain ⟨hD, hlv, hbig⟩ := hF
    obtain ⟨pe, hpe⟩ : ∃ pe, pe = r.pe := ⟨_, rfl⟩
    rw [← hpe] at hD
    have hTw : ∀ w1, Adv B w w1 → HTab w1 := fun w1 ha => hT.below hB1 (hBw.trans ha.below)
    cases hD with
    | rule _ p1 q e qE tt l lv2 vE _ top _ _ h1 h2 h3 h4 h5 h6 h7 h8 h9 h10 h11 h12 =>
      have hq62 : ∀ w1, PAt X pp B w1 q { r with pw := isWS (byte X.t p), pc := false, tt := tt, data := (X.tok tt p1 q).val } toks fns → Calls Tryz.prog 62 #[.pointer (some ⟨pp, 0, none⟩)] w1 (RetP 6 fun w' => ∃ (p' : Nat) (r' : PR) (toks' : List Tok) (fns' : List Nat), PAt X pp B w' p' r' toks' fns' ∧ Adv B w1 w' ∧ CP X [] (X.tok tt p1 q :: X.toks l) evs w' p' r' toks' fns') := by
        intro w1 hP1
        refine (qrule_any X pp B w1 q _ toks fns hP1 p1 h4.gt rfl h6 hlv l e h9 lv2 h7 h8 vE qE h10 hbig h11).mono fun x w' ⟨g1, bufv, sv, dv, out, g2, g3, g4, g5⟩ => ?_
        exact ⟨g1, _, _, _, _, g4, g5, g2, g3, by show SStr X qE r.pe _ _ _; rw [← hpe, g3]; exact h12, rfl, hbig⟩
      rcases h2 with rfl | rfl
      · refine next_pop39 X pp B w p r toks fns hP hpe.symm tt (X.tok tt p1 q).val q (.tk p1 tt q h3 h4 h6 (fun e => by have := h5.2.2.2.1; rw [e] at this; cases this)) h1 6 (CP X [] (X.tok tt p1 q :: X.toks l) evs) (fun w p r t f n h => h.drewN n) fun w1 hP1 hA1 => ?_
        exact sheet_q X pp B w1 q _ toks fns hP1 6 _ h5 (hq62 w1 hP1)
      · refine next_pop75 X pp B w p r toks fns hP hpe.symm tt (X.tok tt p1 q).val q (.tk p1 tt q h3 h4 h6 (fun e => by have := h5.2.2.2.1; rw [e] at this; cases this)) h1 6 (CP X [] (X.tok tt p1 q :: X.toks l) evs) (fun w p r t f n h => h.drewN n) fun w1 hP1 hA1 => ?_
        exact rlist_q X pp B w1 q _ toks fns hP1 6 _ h5 (hq62 w1 hP1)
    | decl _ p1 q e tE vE qE vals _ _ _ h1 h2 h3 h4 h5 =>
      refine next_pop79 X pp B w p r toks fns hP hpe.symm 1 (X.tok 1 p1 q).val q (.tk p1 1 q h2 h3 (by decide) (by decide)) h1 8 (CP X (seg X.t p1 q) vals evs) (fun w p r t f n h => h.drewN n) fun w1 hP1 hA1 => ?_
      have hq : q ≤ X.t.length := hP1.lx.pl
      exact (qual_decl X pp B w1 q _ toks fns hP1 (X.tok 1 p1 q) vals e tE vE qE h4 (hP1.toPB.tok 1 hq) rfl rfl hlv).mono fun x w' ⟨g1, bufv, dv, out, g2, g3, g4, g5⟩ =>
        ⟨g1, _, _, _, _, g4, g5, g2, g3, by show SStr X qE (tE == 31) _ _ _; rw [g3]; exact h5, rfl, hbig⟩
    | dend _ p1 q _ _ _ h1 h2 h3 h4 h5 =>
      refine next_pop79 X pp B w p r toks fns hP hpe.symm 31 (X.tok 31 p1 q).val q (.tk p1 31 q h2 h3 (by decide) (by decide)) h1 7 (CP X [125] (toks.filter nb) evs) (fun w p r t f n h => h.drewN n) fun w1 hP1 hA1 => ?_
      have hq : q ≤ X.t.length := hP1.lx.pl
      exact (qual_end X pp B w1 q _ toks fns hP1 rfl (last_pos h1)).mono fun x w' ⟨g1, sv, g2, g3⟩ =>
        ⟨g1, _, _, _, _, g2, g3, brace_slb g2.toPB hq h4 rfl, rfl, by show SStr X q r.pe _ _ _; rw [← hpe]; exact h5, hlv, hbig⟩
    | pend _ _ _ _ h1 h2 =>
      refine next_pe79 X pp B w p r toks fns hP hpe.symm h1 7 (CP X [125] (toks.filter nb) evs) (fun w p r t f n h => h.drewN n) fun w1 g0 hP1 hS1 hA1 => ?_
      exact (qual_end X pp B w1 p _ toks fns hP1 rfl (last_pos h1)).mono fun x w' ⟨g1, sv, g2, g3⟩ =>
        ⟨g1, _, _, _, _, g2, g3, ⟨_, 1, rfl, fun _ => ⟨g0, 0, rfl, (hS1.adv g3).lies⟩⟩, rfl, h2, hlv, hbig⟩
    | arule _ p1 q e qE nm hv l tE gt vE _ fns' top _ _ h1 h2 h3 h4 h5 h6 h7 h8 h9 h10 h11 h12 h13 h14 h15 =>
      have hq54 : ∀ w1, Adv B w w1 → PAt X pp B w1 q { r with pw := isWS (byte X.t p), pc := false, tt := 3, data := (X.tok 3 p1 q).val } toks fns → Calls Tryz.prog 54 #[.pointer (some ⟨pp, 0, none⟩)] w1 (RetP gt fun w' => ∃ (p' : Nat) (r' : PR) (toks' : List Tok) (fns' : List Nat), PAt X pp B w' p' r' toks' fns' ∧ Adv B w1 w' ∧ CP X (64 :: nm) (X.toks l) evs w' p' r' toks' fns') := by
        intro w1 hA1 hP1
        refine (arule_any X pp B w1 q _ toks fns hP1 p1 nm hv h5 h4.gt rfl hpe.symm hlv h6 h7 h8 h9 (hTw w1 hA1) hB1 l e h10 h11 tE gt fns' vE qE h12 h13 hbig h14).mono fun x w' ⟨g1, bufv, sv, dv, out, g2, g3, g4, g5⟩ => ?_
        exact ⟨g1, _, _, _, _, g4, g5, g2, g3, by show SStr X qE false _ _ _; rw [g3]; exact h15, rfl, hbig⟩
      rcases h2 with rfl | rfl
      · refine next_pop39 X pp B w p r toks fns hP hpe.symm 3 (X.tok 3 p1 q).val q (.tk p1 3 q h3 h4 (by decide) (by decide)) h1 gt (CP X (64 :: nm) (X.toks l) evs) (fun w p r t f n h => h.drewN n) fun w1 hP1 hA1 => ?_
        exact sheet_a X pp B w1 q _ toks fns hP1 gt _ rfl (hq54 w1 hA1 hP1)
      · refine next_pop75 X pp B w p r toks fns hP hpe.symm 3 (X.tok 3 p1 q).val q (.tk p1 3 q h3 h4 (by decide) (by decide)) h1 gt (CP X (64 :: nm) (X.toks l) evs) (fun w p r t f n h => h.drewN n) fun w1 hP1 hA1 => ?_
        exact rlist_a X pp B w1 q _ toks fns hP1 gt _ rfl (hq54 w1 hA1 hP1)
    | eat _ p1 q _ _ _ h1 h2 h3 h4 h5 =>
      refine next_pop75 X pp B w p r toks fns hP hpe.symm 31 (X.tok 31 p1 q).val q (.tk p1 31 q h2 h3 (by decide) (by decide)) h1 4 (CP X [125] (toks.filter nb) evs) (fun w p r t f n h => h.drewN n) fun w1 hP1 hA1 => ?_
      have hq : q ≤ X.t.length := hP1.lx.pl
      exact (rlist_end X pp B w1 q _ toks fns hP1 rfl (last_pos h1)).mono fun x w' ⟨g1, sv, g2, g3⟩ =>
        ⟨g1, _, _, _, _, g2, g3, brace_slb g2.toPB hq h4 rfl, rfl, by show SStr X q r.pe _ _ _; rw [← hpe]; exact h5, hlv, hbig⟩
end Go.Proofs.YtlglijnaeaonpaaGreatDoor.Css
