/- A word's tokens stand where the word stands: plain. -/
import Derived.Test.YtlglijnaeaonpaaGreatDoorNn
import Derived.Test.YtlglijnaeaonpaaGreatDoorNt
import Derived.Test.YtlglijnaeaonpaaGreatDoorNs
set_option linter.all false
/- A word's tokens stand where the word stands: plain. -/
namespace Go.Proofs.YtlglijnaeaonpaaGreatDoor.Css
open Go.RowKit

theorem span_all {t : List UInt8} {f : Int → Bool} (h0 : f 0 = false) (p : Nat) : (∀ i, p ≤ i → i < spanEnd t f p → f (byte t i) = true) ∧ f (byte t (spanEnd t f p)) = false := by
  rcases Nat.lt_or_ge p t.length with hp | hp
  · cases hf : f (byte t p) with
    | true =>
      have ih := span_all (t := t) h0 (p + 1)
      rw [spanEnd_step h0 hf]
      refine ⟨fun i hi hlt => ?_, ih.2⟩
      rcases Nat.eq_or_lt_of_le hi with rfl | hi
      · exact hf
      · exact ih.1 i hi hlt
    | false =>
      rw [spanEnd_stop hf]
      exact ⟨fun i hi hlt => by omega, hf⟩
  · have e : f (byte t p) = false := by rw [byte_end _ _ hp]; exact h0
    rw [spanEnd_stop e]
    exact ⟨fun i hi hlt => by omega, e⟩
termination_by t.length - p

theorem fracEnd_le {t : List UInt8} {s p3 : Nat} (h : fracEnd t s = some p3) : p3 ≤ t.length := by
  have hs : s ≤ t.length := by
    unfold fracEnd at h
    rcases Nat.lt_or_ge s t.length with hlt | hge
    · omega
    · rw [byte_end _ _ hge] at h; simp [isDg] at h
  have hv := frac_val h
  have h1 := spanEnd_le t isDg s hs
  split at hv
  · rename_i hc
    simp only [Bool.and_eq_true] at hc
    have := lt_of_class (f := isDg) rfl hc.2
    rw [hv]; exact spanEnd_le _ _ _ (by omega)
  · omega
/-- A byte behind a word that no token of it takes. -/
def Neu (c : Int) : Prop := c = 0 ∨ c = 32 ∨ c = 59 ∨ c = 58 ∨ c = 10 ∨ c = 123 ∨ c = 125
/-- The word x stands in T from a on, a neutral byte behind it. -/
structure Stands (T x : List UInt8) (a : Nat) : Prop where
  in_ : ∀ i, i < x.length → byte T (a + i) = byte x i
  be : Neu (byte T (a + x.length))
  lst : ∃ A B, T = A ++ (x ++ B) ∧ A.length = a
theorem Neu.dg {c : Int} (h : Neu c) : isDg c = false := by rcases h with rfl | rfl | rfl | rfl | rfl | rfl | rfl <;> decide
theorem Neu.nm {c : Int} (h : Neu c) : isNm c = false := by rcases h with rfl | rfl | rfl | rfl | rfl | rfl | rfl <;> decide
theorem Neu.st {c : Int} (h : Neu c) : isSt c = false := by rcases h with rfl | rfl | rfl | rfl | rfl | rfl | rfl <;> decide
theorem Neu.hx {c : Int} (h : Neu c) : isHx c = false := by rcases h with rfl | rfl | rfl | rfl | rfl | rfl | rfl <;> decide
theorem Neu.ne {c : Int} (h : Neu c) (k : Int) (hk : k ∈ [(34 : Int), 37, 39, 40, 41, 42, 43, 45, 46, 61, 63, 69, 101, 64, 35]) : (c == k) = false := by
  rw [beq_eq_false_iff_ne]
  simp only [List.mem_cons, List.not_mem_nil, or_false] at hk
  unfold Neu at h
  omega
namespace Stands
variable {T x : List UInt8} {a : Nat} (h : Stands T x a)
include h
theorem cls {f : Int → Bool} (h0 : f 0 = false) (hc : f (byte T (a + x.length)) = false) (i : Nat) (hi : i ≤ x.length) : f (byte T (a + i)) = f (byte x i) := by
  rcases Nat.lt_or_ge i x.length with hlt | hge
  · rw [h.in_ i hlt]
  · obtain rfl : i = x.length := by omega
    rw [hc, byte_end _ _ (Nat.le_refl _), h0]
theorem span {f : Int → Bool} (h0 : f 0 = false) (p : Nat) (hp : p ≤ x.length) (hx : spanEnd x f p < x.length ∨ f (byte T (a + x.length)) = false) : spanEnd T f (a + p) = a + spanEnd x f p := by
  obtain ⟨h1, h2⟩ := span_all (t := x) h0 p
  have hge := spanEnd_ge x f p
  have hle := spanEnd_le x f p hp
  refine span_is h0 (by omega) (fun i hi hlt => ?_) ?_
  · have := h1 (i - a) (by omega) (by omega)
    rw [← h.in_ (i - a) (by omega), show a + (i - a) = i by omega] at this
    exact this
  · rcases hx with hx | hx
    · rw [h.in_ _ hx]; exact h2
    · rcases Nat.lt_or_ge (spanEnd x f p) x.length with hlt | hge2
      · rw [h.in_ _ hlt]; exact h2
      · rw [show spanEnd x f p = x.length by omega]; exact hx
theorem dg (i : Nat) (hi : i ≤ x.length) : isDg (byte T (a + i)) = isDg (byte x i) := h.cls rfl h.be.dg i hi
theorem st (i : Nat) (hi : i ≤ x.length) : isSt (byte T (a + i)) = isSt (byte x i) := h.cls rfl h.be.st i hi
theorem nm (i : Nat) (hi : i ≤ x.length) : isNm (byte T (a + i)) = isNm (byte x i) := h.cls rfl h.be.nm i hi
theorem hx (i : Nat) (hi : i ≤ x.length) : isHx (byte T (a + i)) = isHx (byte x i) := h.cls rfl h.be.hx i hi
theorem eqb (k : Int) (hk : k ∈ [(34 : Int), 37, 39, 40, 41, 42, 43, 45, 46, 61, 63, 69, 101, 64, 35]) (i : Nat) (hi : i ≤ x.length) : (byte T (a + i) == k) = (byte x i == k) :=
  h.cls (f := fun c => c == k) ((Neu.ne (.inl rfl)) k hk) (h.be.ne k hk) i hi
theorem sign (p : Nat) (hp : p ≤ x.length) : signEnd T (a + p) = a + signEnd x p := by
  unfold signEnd
  rw [h.eqb 43 (by decide) p hp, h.eqb 45 (by decide) p hp]
  split <;> omega
theorem frac (s : Nat) (hs : s ≤ x.length) : fracEnd T (a + s) = (fracEnd x s).map (a + ·) := by
  unfold fracEnd
  rw [h.dg s hs, h.span rfl s hs (.inr h.be.dg)]
  have hle := spanEnd_le x isDg s hs
  have e1 : (byte T (a + spanEnd x isDg s) == 46 && isDg (byte T (a + spanEnd x isDg s + 1))) = (byte x (spanEnd x isDg s) == 46 && isDg (byte x (spanEnd x isDg s + 1))) := by
    rw [h.eqb 46 (by decide) _ hle]
    rcases Nat.lt_or_ge (spanEnd x isDg s) x.length with hlt | hge
    · rw [Nat.add_assoc, h.dg _ (by omega)]
    · rw [byte_end _ _ hge]; rfl
  have e2 : (byte T (a + s) == 46 && isDg (byte T (a + s + 1))) = (byte x s == 46 && isDg (byte x (s + 1))) := by
    rw [h.eqb 46 (by decide) _ hs]
    rcases Nat.lt_or_ge s x.length with hlt | hge
    · rw [Nat.add_assoc, h.dg _ (by omega)]
    · rw [byte_end _ _ hge]; rfl
  rw [e1, e2]
  split
  · split
    · rename_i hc
      have hlt : spanEnd x isDg s + 1 ≤ x.length := by
        rcases Nat.lt_or_ge (spanEnd x isDg s) x.length with hlt | hge
        · exact hlt
        · rw [byte_end _ _ hge] at hc; simp at hc
      rw [Nat.add_assoc, h.span rfl _ hlt (.inr h.be.dg)]; rfl
    · rfl
  · split
    · rename_i hc
      have hlt : s + 1 ≤ x.length := by
        rcases Nat.lt_or_ge s x.length with hlt | hge
        · exact hlt
        · rw [byte_end _ _ hge] at hc; simp at hc
      rw [Nat.add_assoc, h.span rfl _ hlt (.inr h.be.dg)]; rfl
    · rfl
theorem exp (p : Nat) (hp : p ≤ x.length) : expEnd T (a + p) = a + expEnd x p := by
  unfold expEnd
  rw [h.eqb 101 (by decide) p hp, h.eqb 69 (by decide) p hp]
  split
  · rename_i hc
    have hlt : p + 1 ≤ x.length := by
      rcases Nat.lt_or_ge p x.length with hlt | hge
      · exact hlt
      · rw [byte_end _ _ hge] at hc; exact absurd hc (by decide)
    have hs := signEnd_le (t := x) hlt
    rw [Nat.add_assoc, h.sign _ hlt, h.dg _ hs, h.span rfl _ hs (.inr h.be.dg)]
    split <;> rfl
  · rfl
theorem num {p q : Nat} {tt : Int} (hT : NumT x p tt q) (hp : p < x.length) : NumT T (a + p) tt (a + q) := by
  obtain ⟨p3, hf⟩ := hT.some
  have hsp := signEnd_le (t := x) (p := p) (Nat.le_of_lt hp)
  have hf' : fracEnd T (signEnd T (a + p)) = some (a + p3) := by rw [h.sign _ (by omega), h.frac _ hsp, hf]; rfl
  have hp3 : p3 ≤ x.length := fracEnd_le hf
  have he := expEnd_le hp3
  have hE := h.exp p3 hp3
  cases hT with
  | pc p3' g1 g2 =>
    obtain rfl := Option.some.inj (hf.symm.trans g1)
    have hlt := lt_of_byte (t := x) (p := expEnd x p3) (by rw [g2]; decide)
    have := NumT.pc (t := T) (p := a + p) (a + p3) hf' (by rw [hE, h.in_ _ hlt]; exact g2)
    rw [hE] at this; exact this
  | dim p3' p1 g1 g2 g3 g4 =>
    obtain rfl := Option.some.inj (hf.symm.trans g1)
    have hp1 : p1 ≤ x.length := Nat.le_of_lt (lt_of_class (f := isSt) rfl g4)
    have := NumT.dim (t := T) (p := a + p) (a + p3) (a + p1) hf' (by rw [hE, h.eqb 37 (by decide) _ he]; exact g2) (by
      rw [hE, h.eqb 45 (by decide) _ he]
      rcases g3 with ⟨u, v⟩ | ⟨u, v, v2⟩
      · exact .inl ⟨u, by omega⟩
      · refine .inr ⟨u, ?_, by omega⟩
        rw [Nat.add_assoc, h.eqb 45 (by decide) _ (by omega)]; exact v) (by rw [h.st _ hp1]; exact g4)
    rw [Nat.add_assoc, h.span rfl _ (lt_of_class (f := isSt) rfl g4) (.inr h.be.nm)] at this
    exact this
  | num p3' p1 g1 g2 g3 g4 =>
    obtain rfl := Option.some.inj (hf.symm.trans g1)
    have hp1 : p1 ≤ x.length := by
      rcases g3 with ⟨u, rfl⟩ | ⟨u, v, rfl⟩
      · exact he
      · exact lt_of_byte (t := x) (by rw [beq_iff_eq.1 u]; decide)
    have := NumT.num (t := T) (p := a + p) (a + p3) (a + p1) hf' (by rw [hE, h.eqb 37 (by decide) _ he]; exact g2) (by
      rw [hE, h.eqb 45 (by decide) _ he]
      rcases g3 with ⟨u, v⟩ | ⟨u, v, v2⟩
      · exact .inl ⟨u, by omega⟩
      · refine .inr ⟨u, ?_, by omega⟩
        rw [Nat.add_assoc, h.eqb 45 (by decide) _ (by omega)]; exact v) (by rw [h.st _ hp1]; exact g4)
    rw [hE] at this
    exact this
theorem seg {p q : Nat} (hq : q ≤ x.length) : Css.seg T (a + p) (a + q) = Css.seg x p q := by
  obtain ⟨A, B, rfl, rfl⟩ := h.lst
  unfold Css.seg
  rw [← List.drop_drop, List.drop_left, show A.length + q - (A.length + p) = q - p by omega]
  rcases Nat.lt_or_ge x.length p with hp | hp
  · rw [show q - p = 0 by omega, List.take_zero, List.take_zero]
  · rw [List.drop_append_of_le_length hp, List.take_append_of_le_length (by rw [List.length_drop]; omega)]
theorem il {p p1 q : Nat} {tt : Int} (hT : IL x p p1 tt q) : IL T (a + p) (a + p1) tt (a + q) := by
  have h1 := hT.st
  have hlt := lt_of_class (f := isSt) rfl h1
  have hsp := h.span (f := isNm) rfl (p1 + 1) hlt (.inr h.be.nm)
  have hle := spanEnd_le x isNm (p1 + 1) hlt
  have h1' : isSt (byte T (a + p1)) = true := by rw [h.st _ (by omega)]; exact h1
  cases hT with
  | id _ g2 =>
    have := IL.id (t := T) (p := a + p) (p1 := a + p1) h1' (by rw [Nat.add_assoc, hsp, h.eqb 40 (by decide) _ hle]; exact g2)
    rw [Nat.add_assoc, hsp] at this; exact this
  | fn q' _ g2 g3 g4 =>
    subst g2
    have hl := lt_of_byte (t := x) (by rw [g3]; decide)
    exact IL.fn (t := T) (p := a + p) (p1 := a + p1) (a + spanEnd x isNm (p1 + 1)) h1' (by rw [Nat.add_assoc, hsp]) (by rw [h.in_ _ hl]; exact g3) (by rw [h.seg hle]; exact g4)
  | url q' u v c _ g2 g3 g4 g5 g6 g7 g8 g9 g10 =>
    subst g2
    have hl := lt_of_byte (t := x) (by rw [g3]; decide)
    have hc := lt_of_byte (t := x) (by rw [g10]; decide)
    have hvc : v ≤ c := by rw [← g9]; exact spanEnd_ge _ _ _
    have huv : u ≤ v := by rw [← g7]; exact spanEnd_ge _ _ _
    have hv : spanEnd x isUb u < x.length := by rw [g7]; omega
    have hu : spanEnd x isWS (spanEnd x isNm (p1 + 1) + 1) < x.length := by rw [g5]; omega
    refine IL.url (t := T) (p := a + p) (p1 := a + p1) (a + spanEnd x isNm (p1 + 1)) (a + u) (a + v) (a + c) h1' (by rw [Nat.add_assoc, hsp]) (by rw [h.in_ _ hl]; exact g3) (by rw [h.seg hle]; exact g4) ?_ ?_ ?_ ?_ ?_ ?_
    · rw [Nat.add_assoc, h.span rfl _ (by omega) (.inl hu), g5]
    · rw [h.in_ u (by omega)]; exact g6
    · rw [h.span rfl _ (by omega) (.inl hv), g7]
    · rw [h.in_ v (by omega)]; exact g8
    · rw [h.span rfl _ (by omega) (.inl (by rw [g9]; exact hc)), g9]
    · rw [h.in_ c hc]; exact g10
theorem tk {p q : Nat} {tt : Int} (hT : Tk x p tt q) (hk : tt ≠ 3 ∧ tt ≠ 20) : Tk T (a + p) tt (a + q) := by
  have b0 : ∀ {c : Int}, byte x p = c → c ≠ 0 → byte T (a + p) = c := fun e hc => by rw [h.in_ p (lt_of_byte (by rw [e]; exact hc))]; exact e
  have lt : ∀ {c : Int}, byte x p = c → c ≠ 0 → p < x.length := fun e hc => lt_of_byte (by rw [e]; exact hc)
  cases hT with
  | ws _ => exact absurd rfl hk.2
  | one c tt g1 g2 =>
    have hc : c ≠ 0 := by simp only [List.mem_cons, Prod.mk.injEq, List.not_mem_nil, or_false] at g2; omega
    exact .one c tt (b0 g1 hc) g2
  | br c tt g1 g2 =>
    have hc : c ≠ 0 := by simp only [List.mem_cons, Prod.mk.injEq, List.not_mem_nil, or_false] at g2; omega
    exact .br c tt (b0 g1 hc) g2
  | hash g1 g2 =>
    have hl := lt_of_class (f := isNm) rfl g2
    have := Tk.hash (t := T) (p := a + p) (b0 g1 (by decide)) (by rw [Nat.add_assoc, h.nm _ (by omega)]; exact g2)
    rw [Nat.add_assoc, h.span rfl _ (by omega) (.inr h.be.nm)] at this; exact this
  | str q g1 g2 g3 g4 g5 =>
    have hp : p < x.length := lt_of_byte (by omega)
    have hq : q < x.length := lt_of_byte (by omega)
    refine .str (t := T) (p := a + p) (a + q) (by rw [h.in_ p hp]; exact g1) (by omega) (by rw [h.in_ q hq, h.in_ p hp]; exact g3) (fun i h1 h2 => ?_) (fun i h1 h2 => ?_)
    · have := g4 (i - a) (by omega) (by omega)
      rw [← h.in_ (i - a) (by omega), show a + (i - a) = i by omega] at this; exact this
    · have := g5 (i - a) (by omega) (by omega)
      rw [← h.in_ (i - a) (by omega), show a + (i - a) = i by omega, ← h.in_ p hp] at this; exact this
  | numD tt q g1 g2 =>
    have hp := lt_of_class (f := isDg) rfl g1
    exact .numD tt _ (by rw [h.in_ p hp]; exact g1) (h.num g2 hp)
  | numS tt q g1 g2 =>
    have hp : p < x.length := lt_of_byte (by omega)
    exact .numS tt _ (by rw [h.in_ p hp]; exact g1) (h.num g2 hp)
  | delS g1 g2 =>
    have hp : p < x.length := lt_of_byte (by omega)
    exact .delS (by rw [h.in_ p hp]; exact g1) (by rw [h.sign _ (by omega), h.frac _ (signEnd_le (by omega)), g2]; rfl)
  | hyI tt q g1 g2 g3 =>
    have hp := lt g1 (by decide)
    exact .hyI tt _ (b0 g1 (by decide)) (by rw [Nat.add_assoc, h.eqb 45 (by decide) _ hp]; exact g2) (h.il g3)
  | hyN tt q g1 g2 g3 g4 =>
    have hp := lt g1 (by decide)
    exact .hyN tt _ (b0 g1 (by decide)) (by rw [Nat.add_assoc, h.eqb 45 (by decide) _ hp]; exact g2) (by rw [Nat.add_assoc, h.st _ hp]; exact g3) (h.num g4 hp)
  | at_ _ _ => exact absurd rfl hk.1
  | mt c tt g1 g2 g3 =>
    have hc : c ≠ 0 := by simp only [List.mem_cons, Prod.mk.injEq, List.not_mem_nil, or_false] at g3; omega
    have hl : p + 1 < x.length := lt_of_byte (by rw [g2]; decide)
    exact .mt c tt (b0 g1 hc) (by rw [Nat.add_assoc, h.in_ _ hl]; exact g2) g3
  | mdel g1 g2 =>
    have hp : p < x.length := lt_of_byte (by omega)
    exact .mdel (by rw [h.in_ p hp]; exact g1) (by rw [Nat.add_assoc, h.eqb 61 (by decide) _ hp]; exact g2)
  | uI tt q g1 g2 g3 =>
    have hp : p < x.length := lt_of_byte (by omega)
    refine .uI tt _ (by rw [h.in_ p hp]; exact g1) ?_ (h.il g3)
    rw [Nat.add_assoc, h.eqb 43 (by decide) _ hp]
    cases h43 : byte x (p + 1) == 43 with
    | false => exact .inl rfl
    | true =>
      rcases g2 with g2 | g2
      · rw [h43] at g2; cases g2
      · have hl : p + 1 < x.length := lt_of_byte (by rw [beq_iff_eq.1 h43]; decide)
        refine .inr ⟨?_, ?_⟩
        · rw [Nat.add_assoc, h.hx _ hl]; exact g2.1
        · rw [Nat.add_assoc, h.eqb 63 (by decide) _ hl]; exact g2.2
  | stI tt q g1 g2 g3 =>
    have hp := lt_of_class (f := isSt) rfl g1
    exact .stI tt _ (by rw [h.in_ p hp]; exact g1) (by rw [h.in_ p hp]; exact g2) (h.il g3)
  | del g1 =>
    have hp : p < x.length := lt_of_byte (by omega)
    exact .del (by rw [h.in_ p hp]; exact g1)
end Stands
end Go.Proofs.YtlglijnaeaonpaaGreatDoor.Css
/- The tokens of words in a text: plain. -/
namespace Go.Proofs.YtlglijnaeaonpaaGreatDoor.Css
open Go.RowKit

/-- A token that is no blank begins with no blank. -/
theorem Tk.nows {t : List UInt8} {p : Nat} {tt : Int} {q : Nat} (h : Tk t p tt q) (h20 : tt ≠ 20) (h3 : tt ≠ 3) : isWS (byte t p) = false := by
  cases hw : isWS (byte t p) with
  | false => rfl
  | true =>
    exfalso
    have hb := isWS_yes hw
    have cn := @numB_cls t p
    rcases h.view with h | ⟨h, _⟩ | ⟨h, _⟩ | ⟨h, _⟩ | h | ⟨h, _⟩ | ⟨p1, h1, h2, h3, h4⟩ | ⟨h, _⟩ | ⟨⟨h, _⟩, _⟩ | ⟨h, _⟩
    · omega
    · simp only [List.mem_cons, Prod.mk.injEq, List.not_mem_nil, or_false] at h; omega
    · omega
    · omega
    · have := cn h.numB; omega
    · omega
    · have h5 := isSt_yes h4.st
      rcases h1 with ⟨a, b, rfl⟩ | ⟨a, rfl⟩ <;> omega
    · simp only [List.mem_cons, Prod.mk.injEq, List.not_mem_nil, or_false] at h; omega
    · omega
    · omega
theorem Toks.append {X : Lx} {p e e' : Nat} {l l' : List (Int × Nat × Nat)} (h : Toks X p l e) (h' : Toks X e l' e') : Toks X p (l ++ l') e' := by
  induction h with
  | nil p => exact h'
  | cons p p1 tt q l e a b c d _ ih => exact .cons p p1 tt q _ _ a b c d (ih h')
/-- A word's tokens, moved to its place. -/
def shift (a : Nat) (ts : List (Int × Nat × Nat)) : List (Int × Nat × Nat) := ts.map fun k => (k.1, a + k.2.1, a + k.2.2)
theorem NumT.kind {t : List UInt8} {p : Nat} {tt : Int} {q : Nat} (h : NumT t p tt q) : tt = 10 ∨ tt = 11 ∨ tt = 12 := by cases h <;> omega
theorem IL.kind {t : List UInt8} {p p1 : Nat} {tt : Int} {q : Nat} (h : IL t p p1 tt q) : tt = 1 ∨ tt = 2 ∨ tt = 7 := by cases h <;> omega
theorem Tk.no32 {t : List UInt8} {p : Nat} {tt : Int} {q : Nat} (h : Tk t p tt q) : tt ≠ 32 := by
  rcases h.view with h | ⟨h, _⟩ | ⟨_, _, h, _⟩ | ⟨_, _, h, _⟩ | h | ⟨_, _, h, _⟩ | ⟨p1, h1, h2, h3, h4⟩ | ⟨h, _⟩ | ⟨_, h, _⟩ | ⟨_, h, _⟩
  · omega
  · simp only [List.mem_cons, Prod.mk.injEq, List.not_mem_nil, or_false] at h; omega
  · omega
  · omega
  · have := h.kind; omega
  · omega
  · have := h4.kind; omega
  · simp only [List.mem_cons, Prod.mk.injEq, List.not_mem_nil, or_false] at h; omega
  · omega
  · omega
theorem Toks.word {X : Lx} {x : List UInt8} {a : Nat} (h : Stands X.t x a) {n p e : Nat} {ts : List (Int × Nat × Nat)} (hc : Chain n p ts e) (hk : ∀ k ∈ ts, (k.1 ≠ 3 ∧ k.1 ≠ 20) ∧ Tk x k.2.1 k.1 k.2.2) : Toks X (a + p) (shift a ts) (a + e) := by
  induction hc with
  | nil p => exact .nil _
  | cons p q tt l e h1 h2 h3 ih =>
    obtain ⟨k1, k2⟩ := hk _ (List.mem_cons_self ..)
    have ht := h.tk k2 k1
    refine .cons (a + p) (a + p) tt (a + q) _ _ (spanEnd_stop (f := isWS) (ht.nows k1.2 k1.1)) ht k1.2 ht.no32 (ih fun k hk' => hk k (List.mem_cons_of_mem _ hk'))
theorem Bal.append {d : Nat} {a b : List (Int × Nat × Nat)} (h : Bal d a) (h' : Bal 0 b) : Bal d (a ++ b) := by
  induction h with
  | nil => exact h'
  | cons d d' k l h1 _ ih => exact .cons d d' k _ h1 ih
theorem Bal.shift {d : Nat} {ts : List (Int × Nat × Nat)} (h : Bal d ts) (a : Nat) : Bal d (shift a ts) := by
  induction h with
  | nil => exact .nil
  | cons d d' k l h1 _ ih => exact .cons d d' _ _ h1 ih
/-- The tokens of a word of a value. -/
noncomputable def wtoks (x : List UInt8) : List (Int × Nat × Nat) := by
  classical exact if h : VT x then h.ts.choose else []
theorem wtoks_spec {x : List UInt8} (h : VT x) : wtoks x ≠ [] ∧ Chain x.length 0 (wtoks x) x.length ∧ (∀ k ∈ wtoks x, Vk k.1 ∧ Tk x k.2.1 k.1 k.2.2) ∧ Bal 0 (wtoks x) := by
  unfold wtoks
  rw [dif_pos h]
  exact h.ts.choose_spec
theorem wtoks_fine {x : List UInt8} (h : VT x) : Fine x (wtoks x) := by
  obtain ⟨_, h2, h3, _⟩ := wtoks_spec h
  refine ⟨h.bs, h.nz, h.le, h2, fun k hk => .inl ⟨?_, (h3 k hk).2⟩⟩
  have := (h3 k hk).1
  unfold Vk at this
  omega
theorem toks_bytes {X : Lx} {x : List UInt8} {a : Nat} (h : Stands X.t x a) {ts : List (Int × Nat × Nat)} (hk : ∀ k ∈ ts, k.2.2 ≤ x.length) : (X.toks (shift a ts)).map Tok.bs = tokB x ts := by
  induction ts with
  | nil => rfl
  | cons k ts ih =>
    have h1 := ih fun k hk' => hk k (List.mem_cons_of_mem _ hk')
    have h2 : Css.seg X.t (a + k.2.1) (a + k.2.2) = Css.seg x k.2.1 k.2.2 := h.seg (hk k (List.mem_cons_self ..))
    simp only [Lx.toks, shift, tokB, List.map_cons] at h1 ⊢
    rw [h1]
    exact congrArg (· :: _) h2
/-- A list stands at a place of a text. -/
def AtT (T l : List UInt8) (a : Nat) : Prop := ∃ A B, T = A ++ (l ++ B) ∧ A.length = a
theorem AtT.left {T l r : List UInt8} {a : Nat} (h : AtT T (l ++ r) a) : AtT T l a := by
  obtain ⟨A, B, h1, h2⟩ := h
  exact ⟨A, r ++ B, by rw [h1, List.append_assoc], h2⟩
theorem AtT.right {T l r : List UInt8} {a : Nat} (h : AtT T (l ++ r) a) : AtT T r (a + l.length) := by
  obtain ⟨A, B, h1, h2⟩ := h
  exact ⟨A ++ l, B, by rw [h1]; simp, by rw [List.length_append, h2]⟩
theorem AtT.byte {T l : List UInt8} {a : Nat} (h : AtT T l a) (i : Nat) (hi : i < l.length) : Css.byte T (a + i) = Css.byte l i := by
  obtain ⟨A, B, rfl, rfl⟩ := h
  unfold Css.byte
  rw [List.getD_eq_getElem?_getD, List.getD_eq_getElem?_getD, List.getElem?_append_right (by omega), Nat.add_sub_cancel_left, List.getElem?_append_left hi]
theorem AtT.stands {T l : List UInt8} {a : Nat} (h : AtT T l a) (hb : Neu (Css.byte T (a + l.length))) : Stands T l a := ⟨h.byte, hb, h⟩
theorem Toks.blank {X : Lx} {a e : Nat} {l : List (Int × Nat × Nat)} (h : Toks X (a + 1) l e) (hb : isWS (Css.byte X.t a) = true) (hl : l ≠ []) : Toks X a l e := by
  cases h with
  | nil _ => exact absurd rfl hl
  | cons _ p1 tt q l e h1 h2 h3 h4 h5 => exact .cons a p1 tt q l e (by rw [spanEnd_step (f := isWS) rfl hb]; exact h1) h2 h3 h4 h5
theorem words_toks {X : Lx} : ∀ (ws : List (List UInt8)) (a : Nat), (∀ x ∈ ws, VT x) → AtT X.t (wordsL ws) a → Neu (Css.byte X.t (a + (wordsL ws).length)) →
    ∃ L, Toks X a L (a + (wordsL ws).length) ∧ Bal 0 L ∧ (X.toks L).map Tok.bs = toks wtoks ws ∧ (ws ≠ [] → L ≠ []) := by
  intro ws
  induction ws with
  | nil => intro a _ _ _; exact ⟨[], .nil _, .nil, rfl, fun h => absurd rfl h⟩
  | cons x ws ih =>
    intro a hx hat hne
    have hw : wordsL (x :: ws) = [32] ++ (x ++ wordsL ws) := by simp [wordsL]
    rw [hw] at hat hne ⊢
    have hv := hx x (by simp)
    obtain ⟨w1, w2, w3, w4⟩ := wtoks_spec hv
    have hb : Css.byte X.t (a + 0) = 32 := (hat.left.byte 0 (by simp)).trans rfl
    have hat1 := hat.right
    have hat2 := hat1.right
    simp only [List.length_append, List.length_singleton] at hat1 hat2 hne ⊢
    have hne' : Neu (Css.byte X.t (a + 1 + x.length + (wordsL ws).length)) := by
      rw [show a + 1 + x.length + (wordsL ws).length = a + (1 + (x.length + (wordsL ws).length)) by omega]; exact hne
    have hnx : Neu (Css.byte X.t (a + 1 + x.length)) := by
      cases ws with
      | nil => simpa [wordsL] using hne'
      | cons y ws =>
        have := hat2.byte 0 (by simp [wordsL])
        rw [Nat.add_zero] at this
        rw [this]
        exact .inr (.inl (by simp [wordsL, Css.byte]))
    obtain ⟨L, l1, l2, l3, l4⟩ := ih (a + 1 + x.length) (fun y hy => hx y (by simp [hy])) hat2 hne'
    have hst := hat1.left.stands hnx
    have hT := Toks.word hst w2 (fun k hk => by
      obtain ⟨v1, v2⟩ := w3 k hk
      exact ⟨by unfold Vk at v1; omega, v2⟩)
    rw [Nat.add_zero] at hT hb
    have hn0 : shift (a + 1) (wtoks x) ≠ [] := by
      intro e
      exact w1 (List.map_eq_nil_iff.1 e)
    refine ⟨shift (a + 1) (wtoks x) ++ L, ?_, Bal.append (w4.shift _) l2, ?_, fun _ e => hn0 (List.append_eq_nil_iff.1 e).1⟩
    · rw [show a + (1 + (x.length + (wordsL ws).length)) = a + 1 + x.length + (wordsL ws).length by omega]
      exact (hT.blank (by rw [hb]; rfl) hn0).append l1
    · have hm := toks_bytes hst (ts := wtoks x) fun k hk => (w2.mem k hk).2
      simp only [Lx.toks, List.map_append] at l3 hm ⊢
      rw [l3, hm]; rfl
end Go.Proofs.YtlglijnaeaonpaaGreatDoor.Css
/- Declarations in a text: plain. -/
namespace Go.Proofs.YtlglijnaeaonpaaGreatDoor.Css
open Go.RowKit

theorem PropOK.tk {l : List UInt8} (h : PropOK l) : Tk l 0 1 l.length := by
  have h0 : 97 ≤ byte l 0 ∧ byte l 0 ≤ 122 := by
    rcases h.by_ 0 h.lo with h1 | h1
    · exact h1
    · exact absurd rfl h1.2.1
  have hst : isSt (byte l 0) = true := by simp [isSt]; omega
  have hsp : spanEnd l isNm (0 + 1) = l.length := by
    refine span_is rfl h.lo (fun i hi hlt => ?_) (by rw [byte_end _ _ (Nat.le_refl _)]; rfl)
    rcases h.by_ i hlt with h1 | h1
    · simp [isNm]; omega
    · rw [h1.1]; rfl
  have hil : IL l 0 0 1 l.length := by
    have := IL.id (t := l) (p := 0) (p1 := 0) hst (by rw [hsp, byte_end _ _ (Nat.le_refl _)]; rfl)
    rwa [hsp] at this
  by_cases hu : byte l 0 = 117 ∨ byte l 0 = 85
  · refine .uI 1 l.length hu (.inl ?_) hil
    rw [beq_eq_false_iff_ne]
    show byte l 1 ≠ 43
    rcases Nat.lt_or_ge 1 l.length with hlt | hge
    · rcases h.by_ 1 hlt with h1 | h1 <;> omega
    · rw [byte_end _ _ hge]; decide
  · exact .stI 1 l.length hst ⟨fun e => hu (.inl e), fun e => hu (.inr e)⟩ hil
theorem PropOK.cap {l : List UInt8} (h : PropOK l) : NoCap l := by
  intro i
  rcases Nat.lt_or_ge i l.length with hlt | hge
  · rcases h.by_ i hlt with h1 | h1 <;> omega
  · rw [byte_end _ _ hge]; left; decide
theorem gapL_ws (st : Int) (i : Nat) (hi : i < (gapL st).length) : isWS (byte (gapL st) i) = true := by
  unfold gapL gapS at hi ⊢
  split at hi <;> rename_i h1
  · exact absurd hi (by simp)
  · split at hi <;> rename_i h2
    · rw [if_neg h1, if_pos h2]
      have : i < 1 := hi
      obtain rfl : i = 0 := by omega
      decide
    · rw [if_neg h1, if_neg h2]
      have : i < 2 := hi
      match i, this with
      | 0, _ => decide
      | 1, _ => decide
theorem Toks.blanks {X : Lx} {g : List UInt8} {a e : Nat} {l : List (Int × Nat × Nat)} (hg : AtT X.t g a) (hw : ∀ i, i < g.length → isWS (byte g i) = true) (hl : l ≠ []) (h : Toks X (a + g.length) l e) : Toks X a l e := by
  have key : ∀ k, k ≤ g.length → Toks X (a + (g.length - k)) l e := by
    intro k
    induction k with
    | zero => intro _; exact h
    | succ k ih =>
      intro hk
      have := ih (by omega)
      rw [show a + (g.length - k) = a + (g.length - (k + 1)) + 1 by omega] at this
      refine this.blank ?_ hl
      rw [hg.byte _ (by omega)]; exact hw _ (by omega)
  have := key g.length (Nat.le_refl _)
  rwa [Nat.sub_self, Nat.add_zero] at this
theorem span_blanks {T g : List UInt8} {a : Nat} (hg : AtT T g a) (hw : ∀ i, i < g.length → isWS (byte g i) = true) : spanEnd T isWS a = spanEnd T isWS (a + g.length) := by
  have key : ∀ k, k ≤ g.length → spanEnd T isWS (a + (g.length - k)) = spanEnd T isWS (a + g.length) := by
    intro k
    induction k with
    | zero => intro _; rfl
    | succ k ih =>
      intro hk
      rw [← ih (by omega), spanEnd_step (f := isWS) rfl (by rw [hg.byte _ (by omega)]; exact hw _ (by omega)), show a + (g.length - (k + 1)) + 1 = a + (g.length - k) by omega]
  have := key g.length (Nat.le_refl _)
  rwa [Nat.sub_self, Nat.add_zero] at this
/-- What follows the first declaration. -/
def restD (st : Int) (ds : List (List UInt8 × List (List UInt8))) : List UInt8 := ds.flatMap fun d => dsep st ++ declOne st d
theorem drop_words (x : List UInt8) (ws : List (List UInt8)) : (wordsL (x :: ws)).drop 1 = x ++ wordsL ws := by simp [wordsL]
theorem Neu.of59 : Neu 59 := .inr (.inr (.inl rfl))
theorem Neu.of58 : Neu 58 := .inr (.inr (.inr (.inl rfl)))

/-- One declaration, standing in a text. -/
theorem decl_str {X : Lx} (st : Int) (hbig : X.t.length ≤ 200000) (d : List UInt8 × List (List UInt8)) (p1 e : Nat) (hok : PropOK d.1 ∧ Vals d.2 ∧ d.2 ≠ []) (hat : AtT X.t (declOne st d) p1) (he : e = p1 + (declOne st d).length) (hne : Neu (byte X.t e)) :
    ∃ vals, spanEnd X.t isWS p1 = p1 ∧ Tk X.t p1 1 (p1 + d.1.length) ∧ seg X.t p1 (p1 + d.1.length) = d.1 ∧ vals.map Tok.bs = toks wtoks d.2 ∧
      ∀ tE vE qE, Pop X e tE vE qE → (tE = 24 ∨ tE = 31 ∨ tE = 0) → DeclIn X (p1 + d.1.length) (X.tok 1 p1 (p1 + d.1.length)) vals e tE vE qE := by
  obtain ⟨nm, ws0⟩ := d
  obtain ⟨hp, hv, hn⟩ := hok
  simp only at hp hv hn ⊢
  cases ws0 with
  | nil => exact absurd rfl hn
  | cons x ws =>
    have hD : declOne st (nm, x :: ws) = nm ++ ([58] ++ (gapL st ++ (x ++ wordsL ws))) := by
      simp only [declOne, declHead, drop_words, List.append_assoc]
    rw [hD] at hat he
    have hatN := hat.left
    have hat1 := hat.right
    have hatC := hat1.left
    have hat2 := hat1.right
    have hatG := hat2.left
    have hat3 := hat2.right
    have hatX := hat3.left
    have hatW := hat3.right
    simp only [List.length_append, List.length_singleton] at hatG hat3 hatX hatW he
    have bC : byte X.t (p1 + nm.length) = 58 := by
      have := hatC.byte 0 (by simp)
      rw [Nat.add_zero] at this
      exact this.trans rfl
    have hsN : Stands X.t nm p1 := hatN.stands (by rw [bC]; exact Neu.of58)
    have hTN := hsN.tk hp.tk (by decide)
    rw [Nat.add_zero] at hTN
    have hseg : seg X.t p1 (p1 + nm.length) = nm := by
      have := hsN.seg (p := 0) (q := nm.length) (Nat.le_refl _)
      rw [Nat.add_zero] at this
      rw [this]; simp [Css.seg]
    have hneW : Neu (byte X.t (p1 + nm.length + 1 + (gapL st).length + x.length + (wordsL ws).length)) := by
      rw [show p1 + nm.length + 1 + (gapL st).length + x.length + (wordsL ws).length = e by omega]; exact hne
    have hnx : Neu (byte X.t (p1 + nm.length + 1 + (gapL st).length + x.length)) := by
      cases ws with
      | nil => simpa [wordsL] using hneW
      | cons y ws =>
        have := hatW.byte 0 (by simp [wordsL])
        rw [Nat.add_zero] at this
        rw [this]
        exact .inr (.inl (by simp [wordsL, Css.byte]))
    obtain ⟨w1, w2, w3, w4⟩ := wtoks_spec (hv.vt x (by simp))
    have hsX := hatX.stands hnx
    have hTX := Toks.word hsX w2 (fun k hk => by
      obtain ⟨v1, v2⟩ := w3 k hk
      exact ⟨by unfold Vk at v1; omega, v2⟩)
    rw [Nat.add_zero] at hTX
    obtain ⟨L, l1, l2, l3, _⟩ := words_toks ws _ (fun y hy => hv.vt y (by simp [hy])) hatW hneW
    have hL0 : shift (p1 + nm.length + 1 + (gapL st).length) (wtoks x) ≠ [] := fun e => w1 (List.map_eq_nil_iff.1 e)
    have hT := (hTX.append l1).blanks hatG (gapL_ws st) fun e => hL0 (List.append_eq_nil_iff.1 e).1
    have hm := toks_bytes hsX (ts := wtoks x) fun k hk => (w2.mem k hk).2
    rw [show p1 + nm.length + 1 + (gapL st).length + x.length + (wordsL ws).length = e by omega] at hT
    have hstop : spanEnd X.t isWS (p1 + nm.length) = p1 + nm.length := spanEnd_stop (f := isWS) (by rw [bC]; rfl)
    refine ⟨X.toks (shift (p1 + nm.length + 1 + (gapL st).length) (wtoks x) ++ L), spanEnd_stop (f := isWS) (hTN.nows (by decide) (by decide)), hTN, hseg, ?_, fun tE vE qE hE htE => ?_⟩
    · simp only [Lx.toks, List.map_append] at l3 hm ⊢
      rw [l3, hm]; rfl
    · refine ⟨⟨(23, p1 + nm.length, p1 + nm.length + 1) :: (shift (p1 + nm.length + 1 + (gapL st).length) (wtoks x) ++ L), X.tok 23 (p1 + nm.length) (p1 + nm.length + 1), ?_, ?_, rfl, rfl⟩, ?_, by rw [bC]; rfl, by have := hp.lo; omega, hE, htE, ?_, ?_, hbig, rfl⟩
      · exact .cons _ _ 23 _ _ _ hstop (.one 58 23 bC (by decide)) (by decide) (by decide) hT
      · exact .cons 0 0 _ _ (.no 0 23 rfl rfl rfl rfl rfl rfl rfl rfl rfl) ((w4.shift _).append l2)
      · intro e
        exact hL0 (List.append_eq_nil_iff.1 (List.map_eq_nil_iff.1 e)).1
      · show NoCap (seg X.t p1 (p1 + nm.length))
        rw [hseg]; exact hp.cap
      · show (seg X.t p1 (p1 + nm.length)).length ≤ 200000
        rw [hseg]; have := hp.le; omega

theorem decls_str {X : Lx} (st : Int) (hbig : X.t.length ≤ 200000) : ∀ (ds : List (List UInt8 × List (List UInt8))) (d : List UInt8 × List (List UInt8)) (g : List UInt8) (a : Nat),
    (∀ i, i < g.length → isWS (byte g i) = true) → (∀ y ∈ d :: ds, PropOK y.1 ∧ Vals y.2 ∧ y.2 ≠ []) → AtT X.t (g ++ (declOne st d ++ restD st ds)) a → a + (g ++ (declOne st d ++ restD st ds)).length = X.t.length →
    ∃ evs, DStr X a evs ∧ evs.map evP = (d :: ds).map (pieceOf wtoks) ∧ ∀ e ∈ evs, e.1 = 8 := by
  intro ds
  induction ds with
  | nil =>
    intro d g a hg hok hat hend
    have hatG := hat.left
    have hatD := hat.right.left
    simp only [restD, List.flatMap_nil, List.append_nil, List.length_append] at hend
    have hb0 : byte X.t (a + g.length + (declOne st d).length) = 0 := byte_end _ _ (by omega)
    obtain ⟨vals, k1, k2, k3, k4, k5⟩ := decl_str st hbig d (a + g.length) _ (hok d (by simp)) hatD rfl (by rw [hb0]; exact .inl rfl)
    have hE : spanEnd X.t isWS (a + g.length + (declOne st d).length) = X.t.length := by
      rw [spanEnd_stop (f := isWS) (by rw [hb0]; rfl)]; omega
    have hn : spanEnd X.t isWS X.t.length = X.t.length := spanEnd_stop (f := isWS) (by rw [byte_end _ _ (Nat.le_refl _)]; rfl)
    refine ⟨[(8, d.1, vals)], ?_, ?_, ?_⟩
    · have := DStr.cons (X := X) a (a + g.length) (a + g.length + d.1.length) _ _ _ _ vals [] (by rw [span_blanks hatG hg]; exact k1) k2 (k5 _ _ _ (.end_ hE) (.inr (.inr rfl))) rfl (.nil _ hn)
      rw [k3] at this; exact this
    · simp only [List.map_cons, List.map_nil, evP, pieceOf, k4]
      rfl
    · intro e he
      rw [List.mem_singleton] at he
      rw [he]
  | cons d2 ds ih =>
    intro d g a hg hok hat hend
    have hatG := hat.left
    have hatD := hat.right.left
    have hatR := hat.right.right
    have hR : restD st (d2 :: ds) = [59] ++ (gapL st ++ (declOne st d2 ++ restD st ds)) := by
      simp only [restD, List.flatMap_cons, dsep, List.append_assoc]
    rw [hR] at hatR hend
    have b59 : byte X.t (a + g.length + (declOne st d).length) = 59 := by
      have := hatR.left.byte 0 (by simp)
      rw [Nat.add_zero] at this
      exact this.trans rfl
    obtain ⟨vals, k1, k2, k3, k4, k5⟩ := decl_str st hbig d (a + g.length) _ (hok d (by simp)) hatD rfl (by rw [b59]; exact Neu.of59)
    obtain ⟨evs, i1, i2, i3⟩ := ih d2 (gapL st) (a + g.length + (declOne st d).length + 1) (gapL_ws st) (fun y hy => hok y (List.mem_cons_of_mem _ hy)) hatR.right (by
      simp only [List.length_append, List.length_singleton] at hend ⊢
      omega)
    refine ⟨(8, d.1, vals) :: evs, ?_, ?_, ?_⟩
    · have := DStr.cons (X := X) a (a + g.length) (a + g.length + d.1.length) _ _ _ _ vals evs (by rw [span_blanks hatG hg]; exact k1) k2 (k5 24 _ (a + g.length + (declOne st d).length + 1) (.tk _ 24 _ (spanEnd_stop (f := isWS) (by rw [b59]; rfl)) (.one 59 24 b59 (by decide)) (by decide) (by decide)) (.inl rfl)) rfl i1
      rw [k3] at this; exact this
    · rw [List.map_cons, i2, List.map_cons]
      simp only [evP, pieceOf, k4]
      rfl
    · intro e he
      rcases List.mem_cons.1 he with rfl | he
      · rfl
      · exact i3 e he
end Go.Proofs.YtlglijnaeaonpaaGreatDoor.Css
/- A style's text is read as its declarations. -/
namespace Go.Proofs.YtlglijnaeaonpaaGreatDoor.Css
open Go.RowKit

theorem noBs_mem {t : List UInt8} : NoBs t ↔ ∀ c ∈ t, c ≠ 92 := by
  constructor
  · intro h c hc e
    obtain ⟨i, hi, rfl⟩ := List.mem_iff_getElem.1 hc
    refine h i ?_
    unfold byte
    rw [List.getD_eq_getElem?_getD, List.getElem?_eq_getElem hi, Option.getD_some, e]
    rfl
  · intro h i hi
    have hlt : i < t.length := by
      rcases Nat.lt_or_ge i t.length with hlt | hge
      · exact hlt
      · rw [byte_end _ _ hge] at hi; cases hi
    unfold byte at hi
    rw [List.getD_eq_getElem?_getD, List.getElem?_eq_getElem hlt, Option.getD_some] at hi
    refine h _ (List.getElem_mem hlt) (UInt8.toNat_inj.1 ?_)
    rw [show (92 : UInt8).toNat = 92 from rfl]; omega
theorem noBs_app {a b : List UInt8} (ha : NoBs a) (hb : NoBs b) : NoBs (a ++ b) := by
  rw [noBs_mem] at ha hb ⊢
  intro c hc
  rcases List.mem_append.1 hc with h | h
  · exact ha c h
  · exact hb c h
theorem noBs_nil : NoBs [] := noBs_mem.2 fun _ h => by cases h
theorem noBs_gap (st : Int) : NoBs (gapL st) := by
  rw [noBs_mem]
  unfold gapL gapS
  intro c hc
  split at hc
  · cases hc
  · split at hc
    · have hc' : c ∈ [(32 : UInt8)] := hc
      rw [List.mem_singleton.1 hc']; decide
    · have hc' : c ∈ [(10 : UInt8), 32] := hc
      rcases List.mem_cons.1 hc' with rfl | hc'
      · decide
      · rw [List.mem_singleton.1 hc']; decide
theorem noBs_words : ∀ (ws : List (List UInt8)), (∀ x ∈ ws, NoBs x) → NoBs (wordsL ws)
  | [], _ => noBs_nil
  | x :: ws, h => by
    rw [show wordsL (x :: ws) = [32] ++ (x ++ wordsL ws) from by simp [wordsL]]
    exact noBs_app (noBs_mem.2 fun c hc => by rw [List.mem_singleton.1 hc]; decide) (noBs_app (h x (by simp)) (noBs_words ws fun y hy => h y (by simp [hy])))
theorem PropOK.noBs {l : List UInt8} (h : PropOK l) : NoBs l := by
  intro i
  rcases Nat.lt_or_ge i l.length with hlt | hge
  · rcases h.by_ i hlt with h1 | h1 <;> omega
  · rw [byte_end _ _ hge]; decide
theorem noBs_one (st : Int) (d : List UInt8 × List (List UInt8)) (h : PropOK d.1 ∧ Vals d.2 ∧ d.2 ≠ []) : NoBs (declOne st d) := by
  obtain ⟨h1, h2, _⟩ := h
  have hw := noBs_words d.2 fun x hx => (h2.vt x hx).bs
  rw [noBs_mem] at hw
  exact noBs_app (noBs_app (noBs_app h1.noBs (noBs_mem.2 fun c hc => by rw [List.mem_singleton.1 hc]; decide)) (noBs_gap st)) (noBs_mem.2 fun c hc => hw c (List.mem_of_mem_drop hc))
theorem noBs_flat (st : Int) : ∀ (ds : List (List UInt8 × List (List UInt8))), (∀ d ∈ ds, PropOK d.1 ∧ Vals d.2 ∧ d.2 ≠ []) → NoBs (restD st ds)
  | [], _ => noBs_nil
  | d :: ds, h => by
    rw [show restD st (d :: ds) = ([59] ++ gapL st) ++ declOne st d ++ restD st ds from by simp [restD, dsep]]
    exact noBs_app (noBs_app (noBs_app (noBs_mem.2 fun c hc => by rw [List.mem_singleton.1 hc]; decide) (noBs_gap st)) (noBs_one st d (h d (by simp)))) (noBs_flat st ds fun y hy => h y (by simp [hy]))
theorem noBs_dtext (st : Int) (ds : List (List UInt8 × List (List UInt8))) (h : DsOK ds) : NoBs (dtext st ds) := by
  cases ds with
  | nil => exact noBs_nil
  | cons d ds => exact noBs_app (noBs_one st d (h.ok d (by simp))) (noBs_flat st ds fun y hy => h.ok y (by simp [hy]))
theorem DsOK.len {ds : List (List UInt8 × List (List UInt8))} (h : DsOK ds) (st : Int) : (dtext st ds).length ≤ 5230 := by
  have h1 := dtext_len st ds fun d hd => by
    obtain ⟨a, b, _⟩ := h.ok d hd
    exact ⟨a.le, fun x hx => (b.vt x hx).le, b.le⟩
  have h2 := h.le
  omega
theorem bars_fit {ws : List (List UInt8)} (h : Vals ws) : (bars (toks wtoks ws)).length ≤ 1000000 := by
  have hf : ∀ x ∈ ws, Fine x (wtoks x) := fun x hx => wtoks_fine (h.vt x hx)
  have h1 := bars_len (toks wtoks ws) fun y hy => (toks_fit hf y hy).2
  have h2 := toks_len hf
  have h3 := h.le
  omega
theorem style_plain (st : Int) (ds : List (List UInt8 × List (List UInt8))) (hok : DsOK ds) (B : Nat) (w0 : World) (X : Lx) (pp : Nat) (sv : Value) (hX : X.t = dtext st ds) :
    ∃ F evs, EvOK evs ∧ evs.map evP = ds.map (pieceOf wtoks) ∧ Mach X pp B w0 F ∧ F 0 (r0 sv) [] [38] evs := by
  have hlen : X.t.length ≤ 200000 := by rw [hX]; have := hok.len st; omega
  obtain ⟨evs, h1, h2, h3⟩ : ∃ evs, DStr X 0 evs ∧ evs.map evP = ds.map (pieceOf wtoks) ∧ ∀ e ∈ evs, e.1 = 8 := by
    cases ds with
    | nil => exact ⟨[], .nil 0 (by rw [hX]; exact spanEnd_stop (t := []) (f := isWS) rfl), rfl, fun _ h => by cases h⟩
    | cons d ds =>
      have hd : X.t = declOne st d ++ restD st ds := hX
      exact decls_str st hlen ds d [] 0 (fun i hi => absurd hi (by simp)) hok.ok ⟨[], [], by simp [hd], rfl⟩ (by simp [hd])
  have key : ∀ e ∈ evs, ∃ d ∈ ds, evP e = pieceOf wtoks d := fun e he => by
    have hm : evP e ∈ evs.map evP := List.mem_map_of_mem he
    rw [h2] at hm
    obtain ⟨d, hd, hde⟩ := List.mem_map.1 hm
    exact ⟨d, hd, hde.symm⟩
  refine ⟨StyF X, evs, ⟨?_, fun e he => .inr (.inr (.inr (.inr (.inr (h3 e he))))), fun e he => ?_, fun e he => ?_⟩, h2, style_mach X pp B w0, h1, rfl, rfl, rfl⟩
  · have := congrArg List.length h2
    rw [List.length_map, List.length_map] at this
    have := hok.le
    omega
  · obtain ⟨d, hd, hde⟩ := key e he
    have e1 : e.2.1 = d.1 := congrArg (fun x => x.2.1) hde
    have := (hok.ok d hd).1.le
    rw [e1]; omega
  · obtain ⟨d, hd, hde⟩ := key e he
    have e1 : bars (e.2.2.map Tok.bs) = bars (toks wtoks d.2) := congrArg (fun x => x.2.2) hde
    rw [e1]
    exact bars_fit (hok.ok d hd).2.1

def StyPost (w : World) (e : Ending) (w' : World) : Prop := e = .returned (.bool true) ∧ Below w.heap.size w w'
set_option maxRecDepth 100000 in
set_option maxHeartbeats 4000000 in
theorem style_any (w : World) (v : Value) (ds : List (List UInt8 × List (List UInt8))) (st : Int) (eof : Addr) (h : DeclsMem w v ds) (hU : Utab w) (hio : w.cell? ⟨0, 0, none⟩ = some (.iface 198 (.pointer (some eof)))) :
    Calls Tryz.prog 4 #[v, .int .i64 st] w (StyPost w) := by
  have h3 := hU.lt
  have hf := fits1_any w v ds h
  obtain ⟨a, c, hv, _, _, _⟩ := id h
  have HM := Lib.hid (show _ ∧ _ ∧ _ from ⟨h, hU, hio⟩)
  subst hv
  clear h hU hio
  go_enter Tryz.func4, Tryz.ntmps4
  go_upto_region 1 with fail
  go_cut [9] (fun s wx => ∃ r : Bool, s = .bool r ∧ Below w.heap.size w wx ∧ (r = false → DsFit ds))
  case first =>
    go_wp2_with (go_at_call 10; (with_reducible refine hf.mono ?_); rintro e w1 ⟨r, rfl, hb1, hr1⟩; have HR := Lib.hid hr1; clear hr1)
    go_meet
    exact ⟨_, rfl, hb1, fun hr => HR.out (by simpa using hr)⟩
  case rest =>
  obtain ⟨r, rfl, hb1, hr⟩ := hcut
  clear hf
  cases r with
  | true =>
    clear hr
    go_wp2
    go_ret
    exact ⟨rfl, hb1⟩
  | false =>
  have hfit := hr rfl
  clear hr
  go_upto_region 3 with fail
  by_cases hlo : st < 0
  · have d1 : decide (st < 0) = true := decide_eq_true hlo
    clear hlo
    go_wp2
    go_ret
    exact ⟨rfl, hb1⟩
  by_cases hhi : 2 < st
  · have d1 : decide (st < 0) = false := decide_eq_false hlo
    have d2 : decide (2 < st) = true := decide_eq_true hhi
    clear hlo hhi
    go_wp2
    go_ret
    exact ⟨rfl, hb1⟩
  have d1 : decide (st < 0) = false := decide_eq_false hlo
  have d2 : decide (2 < st) = false := decide_eq_false hhi
  have hst : st = 0 ∨ st = 1 ∨ st = 2 := by omega
  have had := areDecls_any wc _ ds (HM.out.1.below hb1) (HM.out.2.1.below h3 hb1) (fun d hd x hx => by
    have := (hfit.2 d hd).2.2 x hx
    omega)
  have HST := Lib.hid hst
  have HB1 := Lib.hid hb1
  clear hlo hhi hfit hst hb1
  go_cut [20] (fun s wx => ∃ r : Bool, s = .bool r ∧ Below wc.heap.size wc wx ∧ (r = false → DsOK ds))
  case first =>
    go_wp2_with (go_at_call 11; (with_reducible refine had.mono ?_); rintro e w1 ⟨r, rfl, hb1, hr1⟩; have HR := Lib.hid hr1; clear hr1)
    go_meet
    exact ⟨_, rfl, hb1, fun hr => HR.out (by simpa using hr)⟩
  case rest =>
  obtain ⟨r, rfl, hb2, hr⟩ := hcut
  have hbb := HB1.out.trans (hb2.mono HB1.out.size)
  clear hb2 had
  cases r with
  | true =>
    clear hr
    go_wp2
    go_ret
    exact ⟨rfl, hbb⟩
  | false =>
  have hok := hr rfl
  clear hr d1 d2
  have HOK := Lib.hid hok
  have htx := fun w2 (hb : Below w.heap.size w w2) => declsText_any w2 _ ds st (HM.out.1.below hb) HOK.out HST.out
  have hru := fun w2 w3 tv (hb : Below w.heap.size w w2) (hT : Txt w2.heap.size w2 w3 tv (dtext st ds)) =>
    rules_any true r0 [38] newParser_any w3 tv (dtext st ds) eof (hT.slp (B' := 0)).slb (by have := HOK.out.len st; omega) (noBs_dtext st ds HOK.out)
      (((hb.trans (hT.bel.mono hb.size)).cell (p := ⟨0, 0, none⟩) (by show 0 < w.heap.size; omega)).trans HM.out.2.2) (ds.map (pieceOf wtoks)) (fun X pp sv hX => style_plain st ds HOK.out w3.heap.size w3 X pp sv hX)
  have hpi := fun w2 (hb : Below w.heap.size w w2) => declPieces_any w2 _ ds wtoks (HM.out.1.below hb) (HM.out.2.1.below h3 hb) (fun d hd => ⟨fun x hx => wtoks_fine ((HOK.out.ok d hd).2.1.vt x hx), (HOK.out.ok d hd).2.1.le⟩) HOK.out.le
  have HTX := Lib.hid htx
  have HRU := Lib.hid hru
  have HPI := Lib.hid hpi
  clear hok htx hru hpi
  go_upto_region 5 with fail
  have htx := HTX.out _ hbb
  go_upto_region 6 with (first | (go_at_call 12; (with_reducible refine htx.mono ?_); rintro e w2 ⟨tv, rfl, hT⟩; obtain ⟨ta, tn, tc, rfl⟩ := hT.shape; have hru := HRU.out _ _ _ hbb hT; have hbc := hbb.trans (hT.bel.mono hbb.size); clear hT htx) | (go_at_call 7; (with_reducible refine hru.mono ?_); rintro e w3 ⟨out, rfl, hO⟩; obtain ⟨oa, on, oc, rfl⟩ := hO.shape; clear hru))
  have hbel3 : Below w2.heap.size w2 w3 := by
    obtain ⟨_, _, _, hb, _⟩ := id hO
    exact hb
  have hbd := hbc.trans (hbel3.mono hbc.size)
  have hpi := HPI.out _ hbd
  have HO := Lib.hid (show _ ∧ _ from ⟨hO.mem, hbd⟩)
  clear hO hbel3 hbd hbc hbb
  go_wp2_with (first | (go_at_call 13; (with_reducible refine hpi.mono ?_); rintro e w4 ⟨pv, rfl, hP⟩; have hb4 : Below w3.heap.size w3 w4 := (by obtain ⟨_, _, _, hb, _⟩ := id hP; exact hb); have hsp := sameParts_any w4 _ _ _ _ (HO.out.1.below hb4) hP.mem rfl (fun i _ _ => ⟨rfl, fun _ => rfl, fun _ => rfl⟩); have hbe := HO.out.2.trans (hb4.mono HO.out.2.size); obtain ⟨pa, pn, pc, rfl⟩ := hP.shape; clear hpi hP hb4) | (go_at_call 8; (with_reducible refine hsp.mono ?_); rintro e w5 ⟨rfl, hb5⟩; have hbf := hbe.trans (hb5.mono hbe.size); clear hsp hbe hb5))
  go_ret
  exact ⟨rfl, hbf⟩
end Go.Proofs.YtlglijnaeaonpaaGreatDoor.Css
