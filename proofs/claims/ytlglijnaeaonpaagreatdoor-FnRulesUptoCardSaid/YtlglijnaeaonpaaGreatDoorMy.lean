/- A run of tokens, and the brackets that are open in it. -/
import Derived.Test.YtlglijnaeaonpaaGreatDoorMc
set_option linter.all false
/- A run of tokens, and the brackets that are open in it. -/
namespace Go.Proofs.YtlglijnaeaonpaaGreatDoor.Css
open Go.RowKit

theorem Tk.gt {t : List UInt8} {p q : Nat} {tt : Int} (h : Tk t p tt q) : p < q := by
  cases h with
  | ws a => have := spanEnd_ge t isWS (p + 1); omega
  | hash a b => have := spanEnd_ge t isNm (p + 1); omega
  | str q a b c d e => omega
  | numD tt q a b => exact b.gt
  | numS tt q a b => exact b.gt
  | hyI tt q a b c => exact c.gt (by omega)
  | hyN tt q a b c d => exact d.gt
  | at_ a b => have := spanEnd_ge t isNm (p + 1 + 1); omega
  | uI tt q a b c => exact c.gt (Nat.le_refl _)
  | stI tt q a b c => exact c.gt (Nat.le_refl _)
  | _ => omega

/-- Tokens one behind the other, blanks between them. -/
inductive Toks (X : Lx) : Nat → List (Int × Nat × Nat) → Nat → Prop where
  | nil (p : Nat) : Toks X p [] p
  | cons (p p1 : Nat) (tt : Int) (q : Nat) (l : List (Int × Nat × Nat)) (e : Nat) : spanEnd X.t isWS p = p1 → Tk X.t p1 tt q → tt ≠ 20 → tt ≠ 32 → Toks X q l e → Toks X p ((tt, p1, q) :: l) e
def Lx.toks (X : Lx) (l : List (Int × Nat × Nat)) : List Tok := l.map fun k => X.tok k.1 k.2.1 k.2.2

/-- How many brackets are open behind a token. -/
inductive Lv : Nat → Int → Nat → Prop where
  | op (d : Nat) (tt : Int) : tt = 28 ∨ tt = 26 ∨ tt = 2 → Lv d tt (d + 1)
  | cl (d : Nat) (tt : Int) : tt = 29 ∨ tt = 27 → Lv (d + 1) tt d
  | no (d : Nat) (tt : Int) : (tt == 28) = false → (tt == 26) = false → (tt == 2) = false → (tt == 29) = false → (tt == 27) = false → (tt == 24) = false → (tt == 31) = false → (tt == 30) = false → (tt == 0) = false → Lv d tt d
inductive Bal : Nat → List (Int × Nat × Nat) → Prop where
  | nil : Bal 0 []
  | cons (d d' : Nat) (k : Int × Nat × Nat) (l : List (Int × Nat × Nat)) : Lv d k.1 d' → Bal d' l → Bal d (k :: l)

theorem Lv.facts {d d' : Nat} {tt : Int} (h : Lv d tt d') : (tt == 24) = false ∧ (tt == 31) = false ∧ (tt == 30) = false ∧ (tt == 0) = false := by
  cases h with
  | op d tt a => rcases a with rfl | rfl | rfl <;> exact ⟨rfl, rfl, rfl, rfl⟩
  | cl d tt a => rcases a with rfl | rfl <;> exact ⟨rfl, rfl, rfl, rfl⟩
  | no d tt a1 a2 a3 a4 a5 a6 a7 a8 a9 => exact ⟨a6, a7, a8, a9⟩

/-- No blank. -/
def nb (k : Tok) : Bool := k.tt != 20

theorem Buf.cell {w : World} {B : Nat} {g off n cap : Nat} {l : List Tok} (h : Buf w B (.slice (some ⟨g, off, none⟩) n cap) l) (i : Nat) (hi : i < l.length) :
    w.cell? ⟨g, off + i * 2, none⟩ = some (.int .u32 l[i].tt) ∧ w.cell? ⟨g, off + i * 2 + 1, none⟩ = some l[i].val := by
  have h1 := h.1
  have e : n = l.length := by
    rcases h1.2 with ⟨hv, _⟩ | ⟨_, _, _, _, hv, _⟩
    · cases hv
    · cases hv; rfl
  subst e
  obtain ⟨k1, k2⟩ := toksCells_get l i hi
  have r1 := h1.cells _ _ k1
  have r2 := h1.cells _ _ k2
  rw [Addr.add_lit] at r1 r2
  rw [← Nat.add_assoc] at r2
  exact ⟨r1, r2⟩

/-- A fresh slice's value of the parser's buffer. -/
theorem Buf.shape {w : World} {B : Nat} {v : Value} {l : List Tok} (h : Buf w B v l) (h0 : 0 < l.length) : ∃ g off cap, v = .slice (some ⟨g, off, none⟩) l.length cap ∧ l.length ≤ cap := by
  rcases h.1.2 with ⟨_, e⟩ | ⟨g, off, cap, cur, hv, _, _, _, _, hn, _⟩
  · omega
  · exact ⟨g, off, cap, hv, hn⟩

/-- The buffer as a declaration is read: the name, the colon, the tokens of the value and blanks. -/
def DI (X : Lx) (nm c : Tok) (vals : List Tok) (bl : List Tok) (l : List (Int × Nat × Nat)) : Prop :=
  (bl = [nm] ∧ X.toks l = c :: vals) ∨ ∃ rest, bl = nm :: c :: rest ∧ rest.filter nb ++ X.toks l = vals
theorem DI.step {X : Lx} {nm c : Tok} {vals bl : List Tok} {k : Int × Nat × Nat} {l : List (Int × Nat × Nat)} (h : DI X nm c vals bl (k :: l)) (wsl : List Tok) (hw : wsl.filter nb = [])
    (h1 : bl = [nm] → wsl = []) (hk : k.1 ≠ 20) : DI X nm c vals (bl ++ wsl ++ [X.tok k.1 k.2.1 k.2.2]) l := by
  have hnb : nb (X.tok k.1 k.2.1 k.2.2) = true := by simp [nb, Lx.tok, hk]
  rcases h with ⟨rfl, h⟩ | ⟨rest, rfl, h⟩
  · rw [h1 rfl]
    simp only [Lx.toks, List.map_cons, List.cons.injEq] at h
    refine .inr ⟨[], ?_, ?_⟩
    · rw [h.1]; rfl
    · exact h.2
  · refine .inr ⟨rest ++ wsl ++ [X.tok k.1 k.2.1 k.2.2], by simp, ?_⟩
    rw [List.filter_append, List.filter_append, hw, List.append_nil, ← h]
    simp [hnb, Lx.toks]

/-- What a frame holds, slot by slot. -/
def at_ (a : Act) (i : Nat) : Value := a.tmps.getD i undef
theorem frm_exists {a : Act} {C : (Nat → Value) → Act} {R : (Nat → Value) → Prop} (h : R (at_ a)) (e : a = C (at_ a)) : ∃ f, R f ∧ a = C f := ⟨_, h, e⟩

theorem frm_is {a : Act} {C : (Nat → Value) → Act} (e : a = C (at_ a)) : ∃ f, a = C f := ⟨_, e⟩
/-- The number that a slot holds. -/
def int_ (v : Value) : Int := match v with | .int _ i => i | _ => 0
theorem frm_exists_int {a : Act} (n : Nat) {C : Int → (Nat → Value) → Act} {R : Int → (Nat → Value) → Prop} (h : R (int_ (at_ a n)) (at_ a)) (e : a = C (int_ (at_ a n)) (at_ a)) : ∃ o f, R o f ∧ a = C o f := ⟨_, _, h, e⟩

/-- A declaration's loop: the tokens that are to come, the buffer. -/
def DRel (X : Lx) (pp B : Nat) (w : World) (r : PR) (fns : List Nat) (nm c : Tok) (vals : List Tok) (e : Nat) (k : Nat) (wr : World) : Prop :=
  ∃ (l' : List (Int × Nat × Nat)) (p' lv : Nat) (bl : List Tok) (v' : Value) (pw' pc' : Bool), k = l'.length ∧ Toks X p' l' e ∧ Bal lv l' ∧ DI X nm c vals bl l' ∧
    PAt X pp B wr p' { r with buf := v', level := lv, pw := pw', pc := pc' } bl fns ∧ Adv B w wr ∧ (bl = [nm] → isWS (byte X.t p') = false) ∧ bl.length ≤ 2 * p' ∧ 0 < bl.length ∧ lv ≤ p'

theorem Buf.len {w : World} {B : Nat} {a : Addr} {n cap : Nat} {l : List Tok} (h : Buf w B (.slice (some a) n cap) l) : n = l.length := by
  rcases h.1.2 with ⟨hv, _⟩ | ⟨_, _, _, _, hv, _⟩
  · cases hv
  · cases hv; rfl
theorem toksCells_drop (l : List Tok) (m : Nat) : (toksCells l).drop (m * 2) = toksCells (l.drop m) := by
  induction m generalizing l with
  | zero => simp
  | succ m ih =>
    cases l with
    | nil => simp [toksCells]
    | cons a l =>
      rw [show (m + 1) * 2 = m * 2 + 2 by omega, List.drop_succ_cons, ← ih]
      simp [toksCells, Tok.cells]
theorem toksCells_take (l : List Tok) (m : Nat) : (toksCells l).take (m * 2) = toksCells (l.take m) := by
  induction m generalizing l with
  | zero => simp [toksCells]
  | succ m ih =>
    cases l with
    | nil => simp [toksCells]
    | cons a l =>
      have := ih l
      rw [show (m + 1) * 2 = m * 2 + 2 by omega]
      simp only [toksCells, Tok.cells, List.flatMap_cons, List.take_succ_cons, List.cons_append, List.nil_append] at this ⊢
      rw [this]
theorem Buf.drop {w : World} {B : Nat} {g off n cap : Nat} {l : List Tok} (h : Buf w B (.slice (some ⟨g, off, none⟩) n cap) l) (m : Nat) (hm : m ≤ n) :
    Buf w B (.slice (some ⟨g, off + m * 2, none⟩) (n - m) (cap - m)) (l.drop m) := by
  have e := h.len
  subst e
  refine ⟨?_, fun k hk => h.2 k (List.mem_of_mem_drop hk)⟩
  rw [List.length_drop, ← toksCells_drop]
  exact Own.drop h.1 m hm
theorem Buf.take {w : World} {B : Nat} {a : Addr} {n cap : Nat} {l : List Tok} (h : Buf w B (.slice (some a) n cap) l) (m : Nat) (hm : m ≤ n) :
    Buf w B (.slice (some a) m cap) (l.take m) := by
  have e := h.len
  subst e
  refine ⟨?_, fun k hk => h.2 k (List.mem_of_mem_take hk)⟩
  rw [List.length_take, Nat.min_eq_left hm, ← toksCells_take]
  exact Own.take h.1 m hm

theorem toksCells_set (l : List Tok) (j : Nat) (k : Tok) : toksCells (l.set j k) = ((toksCells l).set (j * 2) (.int .u32 k.tt)).set (j * 2 + 1) k.val := by
  induction l generalizing j with
  | nil => simp [toksCells]
  | cons a l ih =>
    match j with
    | 0 => simp [toksCells, Tok.cells]
    | j + 1 =>
      rw [show (j + 1) * 2 = j * 2 + 2 by omega]
      have := ih j
      simp only [toksCells, Tok.cells, List.flatMap_cons, List.set_cons_succ, List.cons_append, List.nil_append] at this ⊢
      rw [this]

theorem PAt.put {X : Lx} {pp B : Nat} {w : World} {p : Nat} {r : PR} {toks : List Tok} {fns : List Nat} (h : PAt X pp B w p r toks fns) {g off n cap : Nat} (hv : r.buf = .slice (some ⟨g, off, none⟩) n cap)
    (j : Nat) (hj : j < toks.length) (tk : Tok) (hk : tk.Ok w) :
    PAt X pp B ((w.setCell ⟨g, off + j * 2, none⟩ (.int .u32 tk.tt)).setCell ⟨g, off + j * 2 + 1, none⟩ tk.val) p r (toks.set j tk) fns ∧
      Adv B w ((w.setCell ⟨g, off + j * 2, none⟩ (.int .u32 tk.tt)).setCell ⟨g, off + j * 2 + 1, none⟩ tk.val) := by
  have hb := h.buf
  rw [hv] at hb
  obtain ⟨h1, h2⟩ := hb
  rcases h1.2 with ⟨h3, _⟩ | ⟨g', off', cap', cur, e1, hB, hg, hs, hc, hn, hx⟩
  · cases h3
  cases e1
  have e1 := heap_set hg (off + j * 2) (.int .u32 tk.tt)
  have e2 := heap_set e1 (off + j * 2 + 1) tk.val
  have hbl : ∀ k, k ≠ g → ((w.setCell ⟨g, off + j * 2, none⟩ (.int .u32 tk.tt)).setCell ⟨g, off + j * 2 + 1, none⟩ tk.val).heap[k]? = w.heap[k]? := fun k hk => by
    rw [Below.heap_setCell _ _ _ _ hk, Below.heap_setCell _ _ _ _ hk]
  have ha : Adv B w ((w.setCell ⟨g, off + j * 2, none⟩ (.int .u32 tk.tt)).setCell ⟨g, off + j * 2 + 1, none⟩ tk.val) :=
    ((Adv.refl B w).setCell hg (by decide) hB _).setCell e1 (by decide) hB _
  have n1 : pp ≠ g := by rintro rfl; exact absurd (ty_eq h.par hg) (by decide)
  have n2 : X.l ≠ g := by rintro rfl; exact absurd (ty_eq h.lx.lex hg) (by decide)
  have n3 : X.g ≠ g := by rintro rfl; exact absurd (ty_eq h.lx.inp hg) (by decide)
  refine ⟨⟨h.toPB.step (hbl _ n2) (hbl _ n3) (hbl _ n1) (fun k hk => hbl _ ?_) ha, ?_⟩, ha⟩
  · rintro rfl; obtain ⟨_, _, cur', hc'⟩ := Own.lt h.stk _ hk; exact absurd (ty_eq hg hc') (by decide)
  · rw [hv]
    refine ⟨⟨by rw [toksCells_length], .inr ⟨g, off, cap, _, by rw [List.length_set], hB, e2, by simpa using hs, fun i u hi => ?_, by simpa using hn, hx⟩⟩, fun k hk' => ?_⟩
    · rw [toksCells_set] at hi
      have hlen := toksCells_length toks
      rw [List.getElem?_set, List.length_set] at hi
      rw [Array.getElem?_setIfInBounds, Array.size_setIfInBounds]
      by_cases c1 : j * 2 + 1 = i
      · subst c1
        rw [if_pos rfl] at hi
        rw [if_pos (by omega)]
        split at hi
        · rw [if_pos (by omega)]; exact hi
        · cases hi
      · rw [if_neg c1] at hi
        rw [if_neg (by omega), Array.getElem?_setIfInBounds]
        rw [List.getElem?_set] at hi
        by_cases c2 : j * 2 = i
        · subst c2
          rw [if_pos rfl] at hi
          rw [if_pos rfl]
          split at hi
          · rw [if_pos (by omega)]; exact hi
          · cases hi
        · rw [if_neg c2] at hi
          rw [if_neg (by omega)]
          exact hc i u hi
    · rcases List.mem_or_eq_of_mem_set hk' with hk' | rfl
      · exact (h2 k hk').adv ha
      · exact hk.adv ha

theorem sep_cases (c : Int) : (c == 44) = true ∨ (c == 44) = false ∧ ((c == 47) = true ∨ (c == 47) = false ∧ ((c == 58) = true ∨ (c == 58) = false ∧ ((c == 33) = true ∨ (c == 33) = false ∧ ((c == 61) = true ∨ (c == 61) = false)))) := by
  cases c == 44 <;> cases c == 47 <;> cases c == 58 <;> cases c == 33 <;> cases c == 61 <;> simp

/-- The first region of a code. -/
def hd : Code → Nat
  | .region id _ _ => id
  | .seq a _ => hd a
  | .block _ c => hd c
  | .loop c => hd c
  | .scope c => hd c
  | _ => 1000000
/-- The first part of a code of some kind. -/
def cfind (p : Code → Bool) : Code → Option Code
  | .loop c => bif p (.loop c) then some (.loop c) else cfind p c
  | .seq a b => bif p (.seq a b) then some (.seq a b) else match cfind p a with
    | some x => some x
    | none => cfind p b
  | .cond t a b => bif p (.cond t a b) then some (.cond t a b) else match cfind p a with
    | some x => some x
    | none => cfind p b
  | .block i c => bif p (.block i c) then some (.block i c) else cfind p c
  | .scope c => cfind p c
  | .region i o d => bif p (.region i o d) then some (.region i o d) else none
  | _ => none
def isLoop (n : Nat) : Code → Bool
  | .loop c => hd c == n
  | _ => false
def isCond (n : Nat) : Code → Bool
  | .cond (.tmp k) _ _ => k == n
  | _ => false
def isReg (n : Nat) : Code → Bool
  | .region k _ _ => k == n
  | _ => false
def isSeq (n : Nat) : Code → Bool
  | .seq a b => hd (.seq a b) == n
  | _ => false
def codeAt (f : Func) (p : Code → Bool) : Code := ((f.body.bind (cfind p)).getD .skip)

/-- A loop that is left in its first round. -/
theorem wp_loop_once {P : Program} {Q : Exit → Act → World → Prop} {a : Act} {w : World} {c : Code} (h : ∀ K : Act → World → Prop, c.wp P (Exit.then K Q) a w) : (Code.loop c).wp P Q a w :=
  wp_loop_ghost_k (fun _ a' w' => a' = a ∧ w' = w) 0 ⟨rfl, rfl⟩ (by rintro n _ _ ⟨rfl, rfl⟩ J K _ _; exact h K)

/-- The buffer while blanks are taken out of it: what is kept, what is left over, what is to come. -/
def CI (L cur : List Tok) (j q : Nat) : Prop := ∃ out mid, cur = out ++ mid ++ L.drop q ∧ out.length = j ∧ j + mid.length = q ∧ out.filter nb = (L.take q).filter nb ∧ q ≤ L.length
theorem CI.start (L : List Tok) : CI L L 0 0 := ⟨[], [], by simp, rfl, rfl, by simp, Nat.zero_le _⟩
theorem CI.len {L cur : List Tok} {j q : Nat} (h : CI L cur j q) : cur.length = L.length ∧ j ≤ q ∧ q ≤ L.length := by
  obtain ⟨out, mid, rfl, h1, h2, h3, h4⟩ := h
  simp only [List.length_append, List.length_drop]
  omega
theorem CI.get {L cur : List Tok} {j q : Nat} (h : CI L cur j q) (i : Nat) (hi : q ≤ i) : cur[i]? = L[i]? := by
  obtain ⟨out, mid, rfl, h1, h2, h3, h4⟩ := h
  rw [List.getElem?_append_right (by simp; omega), List.getElem?_drop]
  congr 1
  simp
  omega
theorem take_succ_filter (L : List Tok) (q : Nat) (hq : q < L.length) : (L.take (q + 1)).filter nb = (L.take q).filter nb ++ [L[q]].filter nb := by
  rw [List.take_add_one, List.filter_append, List.getElem?_eq_getElem hq]; rfl
theorem CI.skip {L cur : List Tok} {j q : Nat} (h : CI L cur j q) (hq : q < L.length) (ht : nb L[q] = false) : CI L cur j (q + 1) := by
  obtain ⟨out, mid, rfl, h1, h2, h3, h4⟩ := h
  refine ⟨out, mid ++ [L[q]], ?_, h1, by simp; omega, ?_, hq⟩
  · rw [List.drop_eq_getElem_cons hq]; simp
  · rw [take_succ_filter L q hq, h3]; simp [ht]
theorem CI.copy {L cur : List Tok} {j q : Nat} (h : CI L cur j q) (hq : q < L.length) : CI L (cur.set j L[q]) (j + 1) (q + 1) := by
  obtain ⟨out, mid, rfl, h1, h2, h3, h4⟩ := h
  have hd := List.drop_eq_getElem_cons hq
  cases mid with
  | nil =>
    refine ⟨out ++ [L[q]], [], ?_, by simp [h1], by simp at h2 ⊢; omega, ?_, hq⟩
    · rw [List.append_nil, List.append_nil, List.set_append_right _ _ (by omega), h1, Nat.sub_self, hd]
      simp only [List.set_cons_zero, List.append_assoc, List.cons_append, List.nil_append]
    · rw [take_succ_filter L q hq, List.filter_append, h3]
  | cons a mid =>
    refine ⟨out ++ [L[q]], mid ++ [L[q]], ?_, by simp [h1], by simp at h2 ⊢; omega, ?_, hq⟩
    · rw [List.append_assoc, List.set_append_right _ _ (by omega), h1, Nat.sub_self, hd]
      simp only [List.set_cons_zero, List.append_assoc, List.cons_append, List.nil_append]
    · rw [take_succ_filter L q hq, List.filter_append, h3]
theorem CI.copy_same {L cur : List Tok} {q : Nat} (h : CI L cur q q) (hq : q < L.length) : CI L cur (q + 1) (q + 1) := by
  have hc := h.copy hq
  have hl := h.len
  have e : cur.set q L[q] = cur := by
    have := h.get q (Nat.le_refl _)
    rw [List.getElem?_eq_getElem hq] at this
    obtain ⟨h1, h2⟩ := List.getElem?_eq_some_iff.1 this
    rw [← h2]
    exact List.set_getElem_self h1
  rwa [e] at hc
theorem CI.done {L cur : List Tok} {j : Nat} (h : CI L cur j L.length) : (cur.take j).filter nb = L.filter nb := by
  obtain ⟨out, mid, rfl, h1, h2, h3, h4⟩ := h
  rw [List.append_assoc, ← h1, List.take_left', h3, List.take_length]
  rfl

end Go.Proofs.YtlglijnaeaonpaaGreatDoor.Css
