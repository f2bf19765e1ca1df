/- A copy of a text without backslashes, and the look whether a text is url in small or capital letters. -/
import Derived.Laws.BytesArg
import Derived.Lib.SlBytesConst
import Derived.Deep.RegionWith
import Derived.Test.YtlglijnaeaonpaaGreatDoorMa
set_option linter.all false
/- A copy of a text without backslashes, and the look whether a text is url in small or capital letters. -/
namespace Go.Proofs.YtlglijnaeaonpaaGreatDoor.Css
open Go.RowKit

theorem info5 : (Tryz.prog.info? 5).map (fun i => (i.zero, i.size, i.bytes)) = some (some (.int .u8 0), 1, 1) := by kernel_rfl

/-- The bytes of a text as cells. -/
def cellsOf (l : List UInt8) : List Value := l.map fun c => .int .u8 c.toNat
theorem cellsOf_length (l : List UInt8) : (cellsOf l).length = l.length := by simp [cellsOf]
theorem cellsOf_append (a b : List UInt8) : cellsOf (a ++ b) = cellsOf a ++ cellsOf b := by simp [cellsOf]
theorem cellsOf_one (l : List UInt8) : ∀ u ∈ cellsOf l, u.oneCell' = true := by
  intro u hu
  obtain ⟨_, _, rfl⟩ := List.mem_map.1 hu
  rfl

/-- The text's bytes lie at a place. -/
def Lies (w : World) (b off : Nat) (l : List UInt8) : Prop := ∀ i, i < l.length → w.cell? ⟨b, off + i, none⟩ = some (.int .u8 (byte l i))
theorem Lies.below {w w' : World} {B b off : Nat} {l : List UInt8} (h : Lies w b off l) (hb : b < B) (hw : Below B w w') : Lies w' b off l :=
  fun i hi => (hw.cell (p := ⟨b, off + i, none⟩) hb).trans (h i hi)
theorem Lies.drewN {w : World} {b off : Nat} {l : List UInt8} (h : Lies w b off l) (n : Nat) : Lies (w.drewN n) b off l := h

theorem cellsOf_get (l : List UInt8) (i : Nat) (h : i < l.length) : (cellsOf l)[i]? = some (.int .u8 (byte l i)) := by
  simp [cellsOf, byte, List.getElem?_eq_getElem h]
theorem Lies.cells {w : World} {b off : Nat} {l : List UInt8} (h : Lies w b off l) : ∀ j u, (cellsOf l)[j]? = some u → w.cell? ((⟨b, off, none⟩ : Addr).add j) = some u := by
  intro j u hu
  have hj : j < l.length := by have := (List.getElem?_eq_some_iff.1 hu).1; simpa [cellsOf] using this
  rw [cellsOf_get l j hj] at hu
  rw [Addr.add_lit, h j hj]; exact hu

/-- The string of one byte. -/
theorem conv_one (w : World) (b off c : Nat) (x : UInt8) (h : w.cell? ⟨b, off, none⟩ = some (.int .u8 x.toNat)) :
    (convert 24 9 (.slice (some ⟨b, off, none⟩) 1 c)).run Tryz.prog w = .ok (.string ⟨#[x]⟩) w := by
  have := run_convert_bytes_arg (P := Tryz.prog) w 24 5 Tryz.underlying24 Tryz.underlying5 b off 1 c [(x.toNat : Int)] rfl (by
    intro i hi
    obtain rfl : i = 0 := by omega
    exact h) 9 Tryz.underlying9
  rw [this]
  simp [strOfNums]

theorem ne_byte (l : List UInt8) (k : Nat) (h : byte l k ≠ 92) : (l.getD k 0 == 92) = false := by
  rw [beq_eq_false_iff_ne]
  intro h'
  exact h (by unfold byte; rw [h']; rfl)

theorem own_step {w' : World} {B : Nat} {v' : Value} {l : List UInt8} {k : Nat} (hk : k < l.length) (h : w'.ownsRow B 5 1 v' (k + 1) (cellsOf (l.take k) ++ [.int .u8 (byte l k)])) :
    w'.ownsRow B 5 1 v' (k + 1) (cellsOf (l.take (k + 1))) := by
  have e : cellsOf (l.take (k + 1)) = cellsOf (l.take k) ++ [.int .u8 (byte l k)] := by
    rw [List.take_succ_eq_append_getElem hk, cellsOf_append]
    simp [cellsOf, byte, hk]
  rw [e]; exact h

set_option maxHeartbeats 1000000 in
set_option maxRecDepth 100000 in
theorem replace_any (w : World) (b off cap ob oc : Nat) (l : List UInt8) (h : Lies w b off l) (hb : b < w.heap.size) (hcap : l.length ≤ cap) (hl : l.length ≤ 140737488351232) (hno : ∀ i, byte l i ≠ 92)
    (ho : w.cell? ⟨ob, 0, none⟩ = some (.int .u8 92)) (hob : ob < w.heap.size) :
    Calls Tryz.prog 125 #[.slice (some ⟨b, off, none⟩) l.length cap, .slice (some ⟨ob, 0, none⟩) 1 oc, .slice none 0 0] w fun e w' =>
      ∃ v, e = .returned v ∧ w'.ownsRow w.heap.size 5 1 v l.length (cellsOf l) ∧ Below w.heap.size w w' := by
  obtain ⟨i0, hi, hz0, hz1, hz2⟩ := info_parts info5
  have H := Lib.hid h
  have HN := Lib.hid hno
  have HO := Lib.hid ho
  clear h hno ho
  go_enter Tryz.func125, Tryz.ntmps125
  go_wp2
  go_loopg [7, 8] l.length (fun k v i wr => ∃ q, q ≤ l.length ∧ k = l.length - q ∧ i = .int .i64 q ∧ wr.ownsRow w.heap.size 5 1 v q (cellsOf (l.take q)) ∧ Below w.heap.size w wr)
  case atStart => exact ⟨0, Nat.zero_le _, rfl, rfl, World.ownsRow_nil _ _ _ _, Below.refl _ _⟩
  case round =>
    obtain ⟨q, hq, hk, rfl, hown, hbel⟩ := hrel
    by_cases hlt : q < l.length
    · have hx : wr.cell? ⟨b, off + q, none⟩ = some (.int .u8 (byte l q)) := (hbel.cell (p := ⟨b, off + q, none⟩) hb).trans (H.out q hlt)
      obtain ⟨x, hxx⟩ : ∃ x : UInt8, x = l.getD q 0 := ⟨_, rfl⟩
      have hcv1 : ∀ nq, (convert 24 9 (.slice (some ⟨b, off + q, none⟩) 1 (cap - q))).run Tryz.prog (wr.drewN nq) = .ok (.string ⟨#[x]⟩) (wr.drewN nq) := fun nq => conv_one _ b (off + q) _ _ (by rw [hxx]; exact hx)
      have hcv2 : ∀ nq, (convert 24 9 (.slice (some ⟨ob, 0, none⟩) 1 oc)).run Tryz.prog (wr.drewN nq) = .ok (.string ⟨#[92]⟩) (wr.drewN nq) := fun nq => conv_one _ ob 0 _ 92 ((hbel.cell (p := ⟨ob, 0, none⟩) hob).trans HO.out)
      have hne : (x == 92) = false := by rw [hxx]; exact ne_byte l q (HN.out q)
      clear hxx
      go_wp2
      have s1 : IntKind.i64.wrap ((q : Int) + 1) = (q : Int) + 1 := IntWalk.i64_in _ (by omega)
      have s2 : decide ((q : Int) + 1 ≤ (l.length : Int)) = true := decide_eq_true (by omega)
      have s3 : (0 : Int) ≤ (q : Int) + 1 := by omega
      have s4 : ((q : Int) + 1).toNat = q + 1 := by omega
      have s5 : (q : Int) ≤ (q : Int) + 1 := by omega
      have s6 : (q : Int) + 1 ≤ (cap : Int) := by omega
      have s7 : ¬ cap = q := by omega
      have s8 : q + 1 - q = 1 := by omega
      go_quiet (fail)
      clear hcv1 hcv2 hne s1 s2 s3 s4 s5 s6 s7 s8
      have hx' : (wr.drewN nq).cell? ⟨b, off + q, none⟩ = some (.int .u8 (byte l q)) := hx
      have hown' : (wr.drewN nq).ownsRow w.heap.size 5 1 u7 q (cellsOf (l.take q)) := hown
      have hbel' : Below w.heap.size w (wr.drewN nq) := ⟨hbel.os, hbel.tape, hbel.output, hbel.size, hbel.block⟩
      clear hx hown hbel
      obtain ⟨wx, hwx⟩ : ∃ wx, wx = wr.drewN nq := ⟨_, rfl⟩
      rw [← hwx] at hx' hown' hbel' ⊢
      clear hwx
      go_wp2_with (first | (at_builtin; refine wpList_append_own _ rfl _ _ 24 rfl w.heap.size 5 i0 (.int .u8 0) 1 1 Tryz.underlying24 hi hz0 hz1 hz2 rfl (by decide) _ _ _ rfl (hown'.alloc _) ⟨wx.heap.size, 0, none⟩ 1 1 [.int .u8 (byte l q)] rfl rfl ?c1 ?c2 ?c3 ?c4 ?c5 ?_))
      case c1 =>
        intro j u hj
        match j, hj with
        | 0, hj => simp at hj; subst hj; simp [Addr.add]
      case c2 => intro u hu; simp at hu; subst hu; rfl
      case c3 => unfold maxLen; omega
      case c4 => omega
      case c5 => have := hbel'.size; simp; omega
      · intro v' w1 hown1 hgrow _
        have R := own_step hlt hown1
        have hb1 := (hbel'.alloc hbel'.size _).grown hgrow (by have := hbel'.size; simp; omega) (fun k hk => (hown'.lt k hk).1)
        clear hown1 hgrow hown' hbel' hx'
        go_wp2
        go_roundg (l.length - (q + 1))
        case measure => omega
        case rel => exact ⟨q + 1, by omega, rfl, by go_num, R, hb1⟩
    · have e : q = l.length := by omega
      subst e
      go_wp2
      go_ret
      rw [List.take_length] at hown
      exact ⟨_, rfl, hown, hbel⟩

/-- What is owned lies there. -/
theorem owned_lies {w : World} {B : Nat} {v : Value} {l : List UInt8} (h : w.ownsRow B 5 1 v l.length (cellsOf l)) (h0 : 0 < l.length) :
    ∃ g cap, v = .slice (some ⟨g, 0, none⟩) l.length cap ∧ B ≤ g ∧ g < w.heap.size ∧ l.length ≤ cap ∧ Lies w g 0 l := by
  obtain ⟨_, h2⟩ := id h
  rcases h2 with ⟨_, h2⟩ | ⟨g, cap, cur, rfl, hB, hg, hc, _, _, _⟩
  · omega
  · refine ⟨g, cap, rfl, hB, (Array.getElem?_eq_some_iff.1 hg).1, hc, fun i hi => ?_⟩
    have := h.cells (g := g) rfl i _ (cellsOf_get l i hi)
    rwa [Addr.add_lit] at this

/-- A byte is a small letter, or the capital one. -/
def fold1 (d c : Int) : Bool := d == c || (decide (65 ≤ d) && decide (d ≤ 90) && (d + 32 == c))
/-- A text is another one in small letters. -/
def eqFold (l t : List UInt8) : Bool := l.length == t.length && (List.range t.length).all fun i => fold1 (byte l i) (byte t i)
theorem eqFold_yes {l t : List UInt8} (h1 : l.length = t.length) (h : ∀ i, i < t.length → fold1 (byte l i) (byte t i) = true) : eqFold l t = true := by
  simp only [eqFold, h1, beq_self_eq_true, Bool.true_and, List.all_eq_true, List.mem_range]
  exact h
theorem eqFold_len {l t : List UInt8} (h1 : l.length ≠ t.length) : eqFold l t = false := by simp [eqFold, h1]
theorem eqFold_no {l t : List UInt8} (i : Nat) (hi : i < t.length) (h : fold1 (byte l i) (byte t i) = false) : eqFold l t = false := by
  simp only [eqFold, Bool.and_eq_false_iff]
  right
  rw [List.all_eq_false]
  exact ⟨i, by simpa using hi, by simp [h]⟩

set_option maxRecDepth 100000 in
set_option maxHeartbeats 1000000 in
theorem fold_any (w : World) (b off cap tb toff tcap : Nat) (l t : List UInt8) (h : Lies w b off l) (ht : Lies w tb toff t) (hl : l.length ≤ 140737488351232) :
    Calls Tryz.prog 124 #[.slice (some ⟨b, off, none⟩) l.length cap, .slice (some ⟨tb, toff, none⟩) t.length tcap] w fun e w' =>
      e = .returned (.bool (eqFold l t)) ∧ w = w' := by
  have H := Lib.hid h
  have HT := Lib.hid ht
  clear h ht
  by_cases hlen : l.length = t.length
  · have HL := Lib.hid hlen
    have b1 : ((l.length : Int) != (t.length : Int)) = false := by simp [bne, hlen]
    have le1 : l.length ≤ t.length := by omega
    have le2 : t.length ≤ l.length := by omega
    clear hlen
    go_enter Tryz.func124, Tryz.ntmps124
    go_wp2
    go_loopg [5, 6, 7, 15] t.length (fun k _ _ _ i wr => ∃ q, q ≤ t.length ∧ k = t.length - q ∧ i = .int .i64 q ∧ wr = w ∧ ∀ j, j < q → fold1 (byte l j) (byte t j) = true)
    case atStart => exact ⟨0, Nat.zero_le _, rfl, rfl, rfl, fun _ h => by omega⟩
    case round =>
      obtain ⟨q, hq, hk, rfl, rfl, hall⟩ := hrel
      have HA := Lib.hid hall
      clear hall
      by_cases hlt : q < t.length
      · have c1 := H.out q (by omega)
        have c2 := HT.out q hlt
        have lo1 := byte_lo l q
        have hi1 := byte_hi l q
        obtain ⟨d, hd⟩ : ∃ d, d = byte l q := ⟨_, rfl⟩
        obtain ⟨c, hc⟩ : ∃ c, c = byte t q := ⟨_, rfl⟩
        rw [← hd] at c1 lo1 hi1
        rw [← hc] at c2
        have HD := Lib.hid hd
        have HC := Lib.hid hc
        have hlt2 : q < l.length := by omega
        clear hd hc
        have good : fold1 d c = true → ∀ j, j < q + 1 → fold1 (byte l j) (byte t j) = true := by
          intro hf j hj
          by_cases e : j = q
          · subst e; rw [← HD.out, ← HC.out]; exact hf
          · exact HA.out j (by omega)
        have bad : fold1 d c = false → eqFold l t = false := fun hf => eqFold_no q hlt (by rw [← HD.out, ← HC.out]; exact hf)
        have GOOD := Lib.hid good
        have BAD := Lib.hid bad
        clear good bad
        cases e1 : (d != c) with
        | false =>
          have HF : Hid (fold1 d c = true) := by
            have : (d == c) = true := by simpa [bne] using e1
            simp [Hid, fold1, this]
          go_wp2
          go_roundg (t.length - (q + 1))
          case measure => omega
          case rel => exact ⟨q + 1, by omega, rfl, by go_num, rfl, GOOD.out HF.out⟩
        | true =>
          have e1' : (d == c) = false := by simpa [bne] using e1
          by_cases e2 : d < 65
          · have HF : Hid (fold1 d c = false) := by simp [Hid, fold1, e1', show ¬ 65 ≤ d by omega]
            clear e1'
            go_wp2
            go_ret
            exact ⟨by rw [BAD.out HF.out]; rfl, rfl⟩
          · by_cases e3 : 90 < d
            · have HF : Hid (fold1 d c = false) := by simp [Hid, fold1, e1', show ¬ d ≤ 90 by omega]
              clear e1'
              go_wp2
              go_ret
              exact ⟨by rw [BAD.out HF.out]; rfl, rfl⟩
            · cases e4 : (d + 32 != c) with
              | true =>
                have HF : Hid (fold1 d c = false) := by
                  have : (d + 32 == c) = false := by simpa [bne] using e4
                  simp [Hid, fold1, e1', this]
                clear e1'
                go_wp2
                go_ret
                exact ⟨by rw [BAD.out HF.out]; rfl, rfl⟩
              | false =>
                have HF : Hid (fold1 d c = true) := by
                  have : (d + 32 == c) = true := by simpa [bne] using e4
                  simp [Hid, fold1, this, show 65 ≤ d by omega, show d ≤ 90 by omega]
                clear e1'
                go_wp2
                go_roundg (t.length - (q + 1))
                case measure => omega
                case rel => exact ⟨q + 1, by omega, rfl, by go_num, rfl, GOOD.out HF.out⟩
      · have e : q = t.length := by omega
        subst e
        go_wp2
        go_ret
        exact ⟨by rw [eqFold_yes HL.out HA.out]; rfl, rfl⟩
  · have HL := Lib.hid hlen
    have b1 : ((l.length : Int) != (t.length : Int)) = true := by rw [bne_iff_ne]; omega
    clear hlen
    go_enter Tryz.func124, Tryz.ntmps124
    go_wp2
    go_ret
    exact ⟨by rw [eqFold_len HL.out]; rfl, rfl⟩

end Go.Proofs.YtlglijnaeaonpaaGreatDoor.Css
/- The lexer's readers of names, functions and addresses. -/
namespace Go.Proofs.YtlglijnaeaonpaaGreatDoor.Css
open Go.RowKit

/-- A byte that may stand in an address. -/
def isUb (c : Int) : Bool := decide (33 ≤ c) && !(c == 34) && !(c == 39) && !(c == 40) && !(c == 41) && !(c == 92) && !(c == 127)
theorem isUb_yes {c : Int} (h : isUb c = true) : 31 < c ∧ (c == 0) = false ∧ (c == 32) = false ∧ (c == 34) = false ∧ (c == 39) = false ∧ (c == 40) = false ∧ (c == 41) = false ∧ (c == 92) = false ∧ (c == 127) = false := by
  simp only [isUb, Bool.and_eq_true, decide_eq_true_eq, Bool.not_eq_true'] at h
  obtain ⟨⟨⟨⟨⟨⟨h1, h2⟩, h3⟩, h4⟩, h5⟩, h6⟩, h7⟩ := h
  exact ⟨by omega, beq_eq_false_iff_ne.2 (by omega), beq_eq_false_iff_ne.2 (by omega), h2, h3, h4, h5, h6, h7⟩

section
variable (X : Lx) (w0 w : World) (p s : Nat) (h : X.At w0 w p s)
include h
set_option maxRecDepth 100000 in
set_option maxHeartbeats 1000000 in
theorem uq_yes (hc : byte X.t (spanEnd X.t isUb p) = 41) :
    Calls Tryz.prog 127 #[.pointer (some ⟨X.l, 0, none⟩)] w fun e w' => e = .returned (.bool true) ∧ X.At w0 w' (spanEnd X.t isUb p) s := by
  have hl := h.c0
  have hpl := h.pl
  have HC := Lib.hid hc
  clear hc
  go_enter Tryz.func127, Tryz.ntmps127
  go_wp2_with fail
  go_loopg [] (X.t.length - p) (fun k wr => ∃ q, p ≤ q ∧ q ≤ X.t.length ∧ k = X.t.length - q ∧ X.At w0 wr q s ∧ spanEnd X.t isUb q = spanEnd X.t isUb p)
  case atStart => exact ⟨p, Nat.le_refl _, by omega, rfl, by assumption, rfl⟩
  case round =>
    obtain ⟨q, hq1, hq2, hk, hA, hE⟩ := hrel
    have hl := Lx.At.c0 hA
    have HE := Lib.hid hE
    clear hE
    cases hq : isUb (byte X.t q) with
    | true =>
      have hlq := lt_of_class (f := isUb) rfl hq
      have HS := Lib.hid (spanEnd_step (f := isUb) rfl hq)
      obtain ⟨b0, b1, b2, b3, b4, b5, b6, b7, b8⟩ := isUb_yes hq
      clear hq
      go_wp2_with (first | (go_at_call 80; ((with_reducible refine ((peek0 X w0 _ _ _ (by assumption))).mono ?_); (rintro e w' ⟨rfl, rfl⟩))) | (go_at_call 58; ((with_reducible refine ((move1 X w0 _ _ _ (by assumption) (by omega))).mono ?_); (rintro e w' ⟨rfl, hA⟩); (have hl := Lx.At.c0 hA))))
      go_roundg (X.t.length - (q + 1))
      case measure => omega
      case rel => exact ⟨q + 1, by omega, by omega, rfl, by assumption, HS.out.symm.trans HE.out⟩
    | false =>
      have HS := Lib.hid (spanEnd_stop (f := isUb) hq)
      have HQ : Hid (byte X.t q = 41) := by unfold Hid; rw [← HS.out, HE.out]; exact HC.out
      have b6 : (byte X.t q == 41) = true := beq_iff_eq.2 HQ.out
      have b1 : (byte X.t q == 0) = false := beq_eq_false_iff_ne.2 (by rw [HQ.out]; decide)
      clear hq
      go_wp2_with (first | (go_at_call 80; ((with_reducible refine ((peek0 X w0 _ _ _ (by assumption))).mono ?_); (rintro e w' ⟨rfl, rfl⟩))) | (go_at_call 58; ((with_reducible refine ((move1 X w0 _ _ _ (by assumption) (by omega))).mono ?_); (rintro e w' ⟨rfl, hA⟩); (have hl := Lx.At.c0 hA))))
      go_ret
      have hA' := hA
      rw [← HS.out, HE.out] at hA'
      exact ⟨rfl, hA'⟩
set_option maxRecDepth 100000 in
set_option maxHeartbeats 1000000 in
theorem uq_no (hc : isWS (byte X.t (spanEnd X.t isUb p)) = true) :
    Calls Tryz.prog 127 #[.pointer (some ⟨X.l, 0, none⟩)] w fun e w' => e = .returned (.bool false) ∧ X.At w0 w' (spanEnd X.t isUb p) s := by
  have hl := h.c0
  have hpl := h.pl
  have HC := Lib.hid hc
  clear hc
  go_enter Tryz.func127, Tryz.ntmps127
  go_wp2_with fail
  go_loopg [] (X.t.length - p) (fun k wr => ∃ q, p ≤ q ∧ q ≤ X.t.length ∧ k = X.t.length - q ∧ X.At w0 wr q s ∧ spanEnd X.t isUb q = spanEnd X.t isUb p)
  case atStart => exact ⟨p, Nat.le_refl _, by omega, rfl, by assumption, rfl⟩
  case round =>
    obtain ⟨q, hq1, hq2, hk, hA, hE⟩ := hrel
    have hl := Lx.At.c0 hA
    have HE := Lib.hid hE
    clear hE
    cases hq : isUb (byte X.t q) with
    | true =>
      have hlq := lt_of_class (f := isUb) rfl hq
      have HS := Lib.hid (spanEnd_step (f := isUb) rfl hq)
      obtain ⟨b0, b1, b2, b3, b4, b5, b6, b7, b8⟩ := isUb_yes hq
      clear hq
      go_wp2_with (first | (go_at_call 80; ((with_reducible refine ((peek0 X w0 _ _ _ (by assumption))).mono ?_); (rintro e w' ⟨rfl, rfl⟩))) | (go_at_call 58; ((with_reducible refine ((move1 X w0 _ _ _ (by assumption) (by omega))).mono ?_); (rintro e w' ⟨rfl, hA⟩); (have hl := Lx.At.c0 hA))))
      go_roundg (X.t.length - (q + 1))
      case measure => omega
      case rel => exact ⟨q + 1, by omega, by omega, rfl, by assumption, HS.out.symm.trans HE.out⟩
    | false =>
      have HS := Lib.hid (spanEnd_stop (f := isUb) hq)
      have HQ : Hid (isWS (byte X.t q) = true) := by unfold Hid; rw [← HS.out, HE.out]; exact HC.out
      have hws := isWS_yes HQ.out
      have b1 : (byte X.t q == 0) = false := beq_eq_false_iff_ne.2 (by omega)
      have b2 : (byte X.t q == 34) = false := beq_eq_false_iff_ne.2 (by omega)
      have b3 : (byte X.t q == 39) = false := beq_eq_false_iff_ne.2 (by omega)
      have b4 : (byte X.t q == 40) = false := beq_eq_false_iff_ne.2 (by omega)
      have b5 : (byte X.t q == 41) = false := beq_eq_false_iff_ne.2 (by omega)
      have b6 : (byte X.t q == 92) = false := beq_eq_false_iff_ne.2 (by omega)
      have b7 : (byte X.t q != 92) = true := by simp [bne, b6]
      clear hq
      by_cases h32 : byte X.t q = 32
      · have b8 : (byte X.t q == 32) = true := beq_iff_eq.2 h32
        clear hws h32
        go_wp2_with (first | (go_at_call 80; ((with_reducible refine ((peek0 X w0 _ _ _ (by assumption))).mono ?_); (rintro e w' ⟨rfl, rfl⟩))) | (go_at_call 58; ((with_reducible refine ((move1 X w0 _ _ _ (by assumption) (by omega))).mono ?_); (rintro e w' ⟨rfl, hA⟩); (have hl := Lx.At.c0 hA))))
        go_ret
        have hA' := hA
        rw [← HS.out, HE.out] at hA'
        exact ⟨rfl, hA'⟩
      · have b8 : (byte X.t q == 32) = false := beq_eq_false_iff_ne.2 h32
        have b9 : byte X.t q ≤ 31 := by omega
        clear hws h32
        go_wp2_with (first | (go_at_call 80; ((with_reducible refine ((peek0 X w0 _ _ _ (by assumption))).mono ?_); (rintro e w' ⟨rfl, rfl⟩))) | (go_at_call 58; ((with_reducible refine ((move1 X w0 _ _ _ (by assumption) (by omega))).mono ?_); (rintro e w' ⟨rfl, hA⟩); (have hl := Lx.At.c0 hA))))
        go_ret
        have hA' := hA
        rw [← HS.out, HE.out] at hA'
        exact ⟨rfl, hA'⟩
end

end Go.Proofs.YtlglijnaeaonpaaGreatDoor.Css
/- The lexer's reader of names, functions and addresses. -/
namespace Go.Proofs.YtlglijnaeaonpaaGreatDoor.Css
open Go.RowKit

/-- What is known of the lexer stays so where memory is made. -/
theorem Lx.At.below {X : Lx} {w0 w w' : World} {p s : Nat} (h : X.At w0 w p s) (hb : Below w.heap.size w w') : X.At w0 w' p s where
  lex := by rw [hb.block _ (Array.getElem?_eq_some_iff.1 h.lex).1]; exact h.lex
  inp := by rw [hb.block _ (Array.getElem?_eq_some_iff.1 h.inp).1]; exact h.inp
  txt := fun i hi => by rw [hb.cell (World.block_lt_of_cell? w _ (h.txt i hi))]; exact h.txt i hi
  io := by rw [hb.cell (World.block_lt_of_cell? w _ h.io)]; exact h.io
  nb := h.nb
  nl := h.nl
  n0 := h.n0
  hg := h.hg
  pl := h.pl
  sp := h.sp
  cp := h.cp
  big := h.big
  keep := h.keep.trans ⟨hb.os, hb.tape, hb.output, hb.size, fun k hk _ => hb.block k hk⟩
theorem Lx.At.alloc {X : Lx} {w0 w : World} {p s : Nat} (h : X.At w0 w p s) (o : Obj) : X.At w0 (w.alloc o) p s :=
  h.below ((Below.refl _ _).alloc (Nat.le_refl _) o)

/-- The bytes of a text from one place to another. -/
def seg (t : List UInt8) (a b : Nat) : List UInt8 := (t.drop a).take (b - a)
theorem seg_length {t : List UInt8} {a b : Nat} (h : b ≤ t.length) : (seg t a b).length = b - a := by
  simp [seg]; omega
theorem byte_seg {t : List UInt8} {a b i : Nat} (hi : i < b - a) : byte (seg t a b) i = byte t (a + i) := by
  unfold byte seg
  rw [List.getD_eq_getElem?_getD, List.getElem?_take_of_lt hi, List.getElem?_drop, ← List.getD_eq_getElem?_getD]
theorem Lx.At.seg {X : Lx} {w0 w : World} {p s : Nat} (h : X.At w0 w p s) {a b : Nat} (hb : b ≤ X.t.length) : Lies w X.b (X.off + a) (seg X.t a b) := by
  intro i hi
  rw [seg_length hb] at hi
  rw [byte_seg hi, Nat.add_assoc]
  exact h.txt (a + i) (by omega)

/-- The letters of url. -/
def urlWord : List UInt8 := [117, 114, 108]
theorem url_lies (w : World) (o : Nat × Nat) (h : o = (0, 0)) : Lies (w.alloc (.cells #[.int .u8 117, .int .u8 114, .int .u8 108] 5 o)) w.heap.size 0 urlWord := by
  subst h
  intro i hi
  have hi' : i < 3 := hi
  rw [Nat.zero_add, World.cell?_alloc_new]
  match i, hi' with
  | 0, _ => rfl
  | 1, _ => rfl
  | 2, _ => rfl
theorem Lies.alloc {w : World} {b off : Nat} {l : List UInt8} (h : Lies w b off l) (o : Obj) : Lies (w.alloc o) b off l :=
  fun i hi => by rw [World.cell?_alloc_lt]; exact h i hi; exact World.block_lt_of_cell? w _ (h i hi)

theorem replace_n (w : World) (b off n cap ob oc : Nat) (l : List UInt8) (hn : l.length = n) (h : Lies w b off l) (hb : b < w.heap.size) (hcap : n ≤ cap) (hl : n ≤ 140737488351232) (hno : ∀ i, byte l i ≠ 92)
    (ho : w.cell? ⟨ob, 0, none⟩ = some (.int .u8 92)) (hob : ob < w.heap.size) (h0 : 0 < n) :
    Calls Tryz.prog 125 #[.slice (some ⟨b, off, none⟩) n cap, .slice (some ⟨ob, 0, none⟩) 1 oc, .slice none 0 0] w fun e w' =>
      ∃ g c, e = .returned (.slice (some ⟨g, 0, none⟩) n c) ∧ Lies w' g 0 l ∧ Below w.heap.size w w' := by
  subst hn
  refine (replace_any w b off cap ob oc l h hb hcap hl hno ho hob).mono ?_
  rintro e w' ⟨v, rfl, hv, hbel⟩
  obtain ⟨g, c, rfl, _, _, _, hL⟩ := owned_lies hv h0
  exact ⟨g, c, rfl, hL, hbel⟩
theorem fold_n (w : World) (b off n cap tb : Nat) (l : List UInt8) (hn : l.length = n) (h : Lies w b off l) (ht : Lies w tb 0 urlWord) (hl : n ≤ 140737488351232) (r : Bool) (hr : eqFold l urlWord = r) :
    Calls Tryz.prog 124 #[.slice (some ⟨b, off, none⟩) n cap, .slice (some ⟨tb, 0, none⟩) 3 3] w fun e w' =>
      e = .returned (.bool r) ∧ w = w' := by
  subst hn
  subst hr
  exact fold_any w b off cap tb 0 3 l urlWord h ht hl

section
variable (X : Lx) (w0 w : World) (p s : Nat) (h : X.At w0 w p s) (hn : NoBs X.t)
include h hn

theorem il_no (p1 : Nat) (hp1 : ((byte X.t p == 45) = false ∧ p1 = p) ∨ ((byte X.t p == 45) = true ∧ (byte X.t (p + 1) == 45) = false ∧ p1 = p + 1)) (hc : isSt (byte X.t p1) = false) :
    Calls Tryz.prog 89 #[.pointer (some ⟨X.l, 0, none⟩)] w fun e w' => e = .returned (.int .u32 0) ∧ X.At w0 w' p s := by
  have HP := Lib.hid hp1
  have HN := Lib.hid (nameEnd_no (t := X.t) (p := p) hc)
  clear hp1
  go_enter Tryz.func89, Tryz.ntmps89
  go_wp2_with (first | (go_at_call 123; ((with_reducible refine (id_any X w0 _ _ _ (by assumption) hn _ HP.out).mono ?_); (rintro e w' ⟨rfl, hA⟩))))
  go_ret
  rw [HN.out] at hA
  exact ⟨rfl, hA⟩
theorem il_id (p1 : Nat) (hp1 : ((byte X.t p == 45) = false ∧ p1 = p) ∨ ((byte X.t p == 45) = true ∧ (byte X.t (p + 1) == 45) = false ∧ p1 = p + 1)) (hc : isSt (byte X.t p1) = true)
    (h40 : (byte X.t (spanEnd X.t isNm (p1 + 1)) == 40) = false) :
    Calls Tryz.prog 89 #[.pointer (some ⟨X.l, 0, none⟩)] w fun e w' => e = .returned (.int .u32 1) ∧ X.At w0 w' (spanEnd X.t isNm (p1 + 1)) s := by
  have HP := Lib.hid hp1
  have HN := Lib.hid (nameEnd_yes (t := X.t) (p := p) hc)
  clear hp1
  have h40' : (byte X.t (spanEnd X.t isNm (p1 + 1)) != 40) = true := by simp [bne, h40]
  clear h40
  go_enter Tryz.func89, Tryz.ntmps89
  go_wp2_with (first | (go_at_call 123; ((with_reducible refine (id_any X w0 _ _ _ (by assumption) hn _ HP.out).mono ?_); (rintro e w' ⟨rfl, hA⟩); rw [HN.out] at hA; (have hl := Lx.At.c0 hA))) | (go_at_call 80; ((with_reducible refine ((peek0 X w0 _ _ _ (by assumption))).mono ?_); (rintro e w' ⟨rfl, rfl⟩))))
  go_ret
  exact ⟨rfl, by assumption⟩

set_option maxRecDepth 100000 in
set_option maxHeartbeats 1000000 in
theorem il_fn (p1 q : Nat) (hps : s = p) (hp1 : ((byte X.t p == 45) = false ∧ p1 = p) ∨ ((byte X.t p == 45) = true ∧ (byte X.t (p + 1) == 45) = false ∧ p1 = p + 1)) (hc : isSt (byte X.t p1) = true)
    (hq : spanEnd X.t isNm (p1 + 1) = q) (h40 : byte X.t q = 40) (hu : eqFold (seg X.t p q) urlWord = false) :
    Calls Tryz.prog 89 #[.pointer (some ⟨X.l, 0, none⟩)] w fun e w' => e = .returned (.int .u32 2) ∧ X.At w0 w' (q + 1) s := by
  subst hps
  have HP := Lib.hid hp1
  have HN := Lib.hid ((nameEnd_yes (t := X.t) (p := s) hc).trans hq)
  have hgt : s < q := by
    have := spanEnd_ge X.t isNm (p1 + 1)
    rcases hp1 with ⟨_, rfl⟩ | ⟨_, _, rfl⟩ <;> omega
  have hlt : q < X.t.length := lt_of_byte (by rw [h40]; decide)
  have h40' : (byte X.t q != 40) = false := by rw [h40]; rfl
  have HB := Lib.hid (show ∀ i, byte (seg X.t s q) i ≠ 92 from fun i => by
    by_cases hi : i < q - s
    · rw [byte_seg hi]; exact hn _
    · rw [byte_end _ _ (by rw [seg_length (by omega)]; omega)]; decide)
  have HU := Lib.hid hu
  have hbig : X.t.length ≤ 140737488351232 := by have := h.big; have := h.cp; omega
  have HSL := Lib.hid (seg_length (a := s) (b := q) (t := X.t) (by omega))
  clear hp1 hq h40 hu
  go_enter Tryz.func89, Tryz.ntmps89
  go_wp2_with (first | (go_at_call 123; ((with_reducible refine (id_any X w0 _ _ _ (by assumption) hn _ HP.out).mono ?_); (rintro e w' ⟨rfl, hA⟩); rw [HN.out] at hA; (have hl := Lx.At.c0 hA))) | (go_at_call 80; ((with_reducible refine ((peek0 X w0 _ _ _ (by assumption))).mono ?_); (rintro e w' ⟨rfl, rfl⟩))) | (go_at_call 100; ((with_reducible refine ((lexeme_any X w0 _ _ _ (by assumption) (by omega))).mono ?_); (rintro e w' ⟨rfl, hA⟩); (have hl := Lx.At.c0 hA))))
  refine (replace_n _ _ _ _ _ _ _ (seg X.t s q) HSL.out ((hA.seg (by omega)).alloc _) ?s1 (Nat.le_refl _) (by omega) HB.out ?s2 ?s3 (by omega)).mono ?_
  case s1 => exact Nat.lt_succ_of_lt (World.block_lt_of_cell? _ _ (hA.txt 0 (Nat.zero_le _))) |> fun h => by simpa using h
  case s2 => simp
  case s3 => simp
  rintro e w2 ⟨g, c, rfl, hL, hbel⟩
  have hA2 := (hA.alloc _).below hbel
  clear hA hbel
  have hl := Lx.At.c0 hA2
  go_wp2_with fail
  refine (fold_n _ _ _ _ _ _ (seg X.t s q) HSL.out (hL.alloc _) (url_lies _ _ rfl) (by omega) _ HU.out).mono ?_
  rintro e w3 ⟨rfl, rfl⟩
  have hA3 := hA2.alloc (.cells #[.int .u8 117, .int .u8 114, .int .u8 108] 5)
  clear hA2 hL hl
  have hl := Lx.At.c0 hA3
  go_wp2_with (first | (go_at_call 58; ((with_reducible refine ((move1 X w0 _ _ _ (by assumption) (by omega))).mono ?_); (rintro e w' ⟨rfl, hA⟩); (have hl := Lx.At.c0 hA))))
  go_ret
  exact ⟨rfl, by assumption⟩

set_option maxRecDepth 100000 in
set_option maxHeartbeats 1000000 in
theorem il_url (p1 q a b c : Nat) (hps : s = p) (hp1 : ((byte X.t p == 45) = false ∧ p1 = p) ∨ ((byte X.t p == 45) = true ∧ (byte X.t (p + 1) == 45) = false ∧ p1 = p + 1)) (hc : isSt (byte X.t p1) = true)
    (hq : spanEnd X.t isNm (p1 + 1) = q) (h40 : byte X.t q = 40) (hu : eqFold (seg X.t p q) urlWord = true)
    (ha : spanEnd X.t isWS (q + 1) = a) (haq : (byte X.t a == 34) = false ∧ (byte X.t a == 39) = false) (hb : spanEnd X.t isUb a = b) (hbc : byte X.t b = 41 ∨ isWS (byte X.t b) = true)
    (hcc : spanEnd X.t isWS b = c) (h41 : byte X.t c = 41) :
    Calls Tryz.prog 89 #[.pointer (some ⟨X.l, 0, none⟩)] w fun e w' => e = .returned (.int .u32 7) ∧ X.At w0 w' (c + 1) s := by
  subst hps
  have HP := Lib.hid hp1
  have HN := Lib.hid ((nameEnd_yes (t := X.t) (p := s) hc).trans hq)
  have hgt : s < q := by
    have := spanEnd_ge X.t isNm (p1 + 1)
    rcases hp1 with ⟨_, rfl⟩ | ⟨_, _, rfl⟩ <;> omega
  have hlt : q < X.t.length := lt_of_byte (by rw [h40]; decide)
  have h40' : (byte X.t q != 40) = false := by rw [h40]; rfl
  have HB := Lib.hid (show ∀ i, byte (seg X.t s q) i ≠ 92 from fun i => by
    by_cases hi : i < q - s
    · rw [byte_seg hi]; exact hn _
    · rw [byte_end _ _ (by rw [seg_length (by omega)]; omega)]; decide)
  have HU := Lib.hid hu
  have hbig : X.t.length ≤ 140737488351232 := by have := h.big; have := h.cp; omega
  have HSL := Lib.hid (seg_length (a := s) (b := q) (t := X.t) (by omega))
  have HA := Lib.hid ha
  have HBB := Lib.hid hb
  have HCC := Lib.hid hcc
  have H41 := Lib.hid h41
  have hale : a ≤ X.t.length := by rw [← ha]; exact spanEnd_le _ _ _ hlt
  have hble : b ≤ X.t.length := by rw [← hb]; exact spanEnd_le _ _ _ hale
  have hclt : c < X.t.length := lt_of_byte (by rw [h41]; decide)
  obtain ⟨haq1, haq2⟩ := haq
  clear hp1 hq h40 hu ha hb hcc h41
  go_enter Tryz.func89, Tryz.ntmps89
  go_wp2_with (first | (go_at_call 123; ((with_reducible refine (id_any X w0 _ _ _ (by assumption) hn _ HP.out).mono ?_); (rintro e w' ⟨rfl, hA⟩); rw [HN.out] at hA; (have hl := Lx.At.c0 hA))) | (go_at_call 80; ((with_reducible refine ((peek0 X w0 _ _ _ (by assumption))).mono ?_); (rintro e w' ⟨rfl, rfl⟩))) | (go_at_call 100; ((with_reducible refine ((lexeme_any X w0 _ _ _ (by assumption) (by omega))).mono ?_); (rintro e w' ⟨rfl, hA⟩); (have hl := Lx.At.c0 hA))))
  refine (replace_n _ _ _ _ _ _ _ (seg X.t s q) HSL.out ((hA.seg (by omega)).alloc _) ?s1 (Nat.le_refl _) (by omega) HB.out ?s2 ?s3 (by omega)).mono ?_
  case s1 => exact Nat.lt_succ_of_lt (World.block_lt_of_cell? _ _ (hA.txt 0 (Nat.zero_le _))) |> fun h => by simpa using h
  case s2 => simp
  case s3 => simp
  rintro e w2 ⟨g, cc, rfl, hL, hbel⟩
  have hA2 := (hA.alloc _).below hbel
  clear hA hbel
  have hl := Lx.At.c0 hA2
  go_wp2_with fail
  refine (fold_n _ _ _ _ _ _ (seg X.t s q) HSL.out (hL.alloc _) (url_lies _ _ rfl) (by omega) _ HU.out).mono ?_
  rintro e w3 ⟨rfl, rfl⟩
  have hA3 := hA2.alloc (.cells #[.int .u8 117, .int .u8 114, .int .u8 108] 5)
  clear hA2 hL hl hc
  have hl := Lx.At.c0 hA3
  go_upto_block 0 with (first | (go_at_call 58; ((with_reducible refine ((move1 X w0 _ _ _ (by assumption) (by omega))).mono ?_); (rintro e w' ⟨rfl, hA⟩); (have hl := Lx.At.c0 hA))))
  go_cut [] (fun wx => X.At w0 wx a s)
  case first =>
    go_wp2_with fail
    go_loopg [] (X.t.length - (q + 1)) (fun k  wr => ∃ jj, q + 1 ≤ jj ∧ jj ≤ X.t.length ∧ k = X.t.length - jj ∧ X.At w0 wr jj s ∧ spanEnd X.t isWS jj = spanEnd X.t isWS (q + 1))
    case atStart => exact ⟨q + 1, Nat.le_refl _, by omega, rfl, by assumption, rfl⟩
    case round =>
      obtain ⟨jj, hq1, hq2, hk, hA, hE⟩ := hrel
      have hl := Lx.At.c0 hA
      have HE := Lib.hid hE
      clear hE
      cases hq : isWS (byte X.t jj) with
      | true =>
        have hlq := lt_of_class (f := isWS) rfl hq
        have HS := Lib.hid (spanEnd_step (f := isWS) rfl hq)
        go_wp2_with (first | (go_at_call 81; ((with_reducible refine ((ws_yes X w0 _ _ _ (by assumption) (by assumption))).mono ?_); (rintro e w' ⟨rfl, hA⟩); (have hl := Lx.At.c0 hA))))
        go_roundg (X.t.length - (jj + 1))
        case measure => omega
        case rel => exact ⟨jj + 1, by omega, by omega, rfl, by assumption, HS.out.symm.trans HE.out⟩
      | false =>
        have HS := Lib.hid (spanEnd_stop (f := isWS) hq)
        go_wp2_with (first | (go_at_call 81; ((with_reducible refine ((ws_no X w0 _ _ _ (by assumption) (by assumption))).mono ?_); (rintro e w' ⟨rfl, hA⟩); (have hl := Lx.At.c0 hA))))
        have hA' := hA
        rw [← HS.out, HE.out] at hA'
        (go_meet; rw [← HA.out]; exact hA')
  case rest =>
  have hA := hcut
  have hl := Lx.At.c0 hA
  clear hcut
  go_upto_if 44 with (first | (go_at_call 80; ((with_reducible refine ((peek0 X w0 _ _ _ (by assumption))).mono ?_); (rintro e w' ⟨rfl, rfl⟩))))
  go_cut [] (fun wx => ∃ d, d ≤ X.t.length ∧ spanEnd X.t isWS d = c ∧ X.At w0 wx d s)
  case first =>
    rcases hbc with hbc | hbc
    · go_wp2_with (first | (go_at_call 127; ((with_reducible refine (uq_yes X w0 _ _ _ (by assumption) (by rw [HBB.out]; exact hbc)).mono ?_); (rintro e w' ⟨rfl, hA⟩); rw [HBB.out] at hA; (have hl := Lx.At.c0 hA))))
      go_meet
      exact ⟨b, hble, HCC.out, by assumption⟩
    · have hblt := lt_of_class (f := isWS) rfl hbc
      go_wp2_with (first | (go_at_call 127; ((with_reducible refine (uq_no X w0 _ _ _ (by assumption) (by rw [HBB.out]; exact hbc)).mono ?_); (rintro e w' ⟨rfl, hA⟩); rw [HBB.out] at hA; (have hl := Lx.At.c0 hA))) | (go_at_call 81; ((with_reducible refine ((ws_yes X w0 _ _ _ (by assumption) (by assumption))).mono ?_); (rintro e w' ⟨rfl, hA⟩); (have hl := Lx.At.c0 hA))))
      go_meet
      exact ⟨b + 1, hblt, by rw [← HCC.out, spanEnd_step rfl hbc], by assumption⟩
  case rest =>
  obtain ⟨d, hd, HD, hA⟩ := hcut
  have HD := Lib.hid HD
  have hl := Lx.At.c0 hA
  clear hbc
  go_upto_block 2 with fail
  go_cut [] (fun wx => X.At w0 wx c s)
  case first =>
    go_wp2_with fail
    go_loopg [] (X.t.length - (d)) (fun k  wr => ∃ jj, d ≤ jj ∧ jj ≤ X.t.length ∧ k = X.t.length - jj ∧ X.At w0 wr jj s ∧ spanEnd X.t isWS jj = spanEnd X.t isWS (d))
    case atStart => exact ⟨d, Nat.le_refl _, by omega, rfl, by assumption, rfl⟩
    case round =>
      obtain ⟨jj, hq1, hq2, hk, hA, hE⟩ := hrel
      have hl := Lx.At.c0 hA
      have HE := Lib.hid hE
      clear hE
      cases hq : isWS (byte X.t jj) with
      | true =>
        have hlq := lt_of_class (f := isWS) rfl hq
        have HS := Lib.hid (spanEnd_step (f := isWS) rfl hq)
        go_wp2_with (first | (go_at_call 81; ((with_reducible refine ((ws_yes X w0 _ _ _ (by assumption) (by assumption))).mono ?_); (rintro e w' ⟨rfl, hA⟩); (have hl := Lx.At.c0 hA))))
        go_roundg (X.t.length - (jj + 1))
        case measure => omega
        case rel => exact ⟨jj + 1, by omega, by omega, rfl, by assumption, HS.out.symm.trans HE.out⟩
      | false =>
        have HS := Lib.hid (spanEnd_stop (f := isWS) hq)
        go_wp2_with (first | (go_at_call 81; ((with_reducible refine ((ws_no X w0 _ _ _ (by assumption) (by assumption))).mono ?_); (rintro e w' ⟨rfl, hA⟩); (have hl := Lx.At.c0 hA))))
        have hA' := hA
        rw [← HS.out, HE.out] at hA'
        (go_meet; rw [← HD.out]; exact hA')
  case rest =>
  have hA := hcut
  have hl := Lx.At.c0 hA
  clear hcut
  go_wp2
  refine wp_region_any (by kernel_rfl) ?_
  change wpAny _ _ _ _ _ _ _ (World.drew _)
  refine wpAny_take (i := 0) (v := .pointer (some ⟨X.l, 0, none⟩)) rfl (by kernel_rfl) (by kernel_rfl) (by kernel_rfl) (fun _ _ _ h => h) (Or.inl ⟨by kernel_rfl, fun _ => by kernel_rfl⟩) ?_
  refine wpAny_ready (rs := [1]) (by kernel_rfl) (by simp) ?_
  refine AllReady.cons rfl (fun K hK => ?_) AllReady.nil
  go_simp
  refine (cb_yes X w0 _ _ _ hA.drew _ (by decide) H41.out).mono ?_
  rintro e w4 ⟨rfl, hA4⟩
  refine hK _ _ ?_
  clear hK K hA hl
  refine wpAny_take (i := 2) (v := .bool false) rfl (by kernel_rfl) (by kernel_rfl) (by kernel_rfl) (fun _ _ _ h => h) (Or.inl ⟨by kernel_rfl, fun _ => by kernel_rfl⟩) ?_
  refine wpAny_take (i := 3) (v := .bool false) rfl (by kernel_rfl) (by kernel_rfl) (by kernel_rfl) (fun _ _ _ h => h) (Or.inl ⟨by kernel_rfl, fun _ => by kernel_rfl⟩) ?_
  go_simp
  refine wpAny_take (i := 4) (v := undef) rfl (by kernel_rfl) (by kernel_rfl) (by kernel_rfl) (fun _ _ _ h => h) (Or.inr ⟨by kernel_rfl, rfl⟩) ?_
  refine wpAny_take (i := 5) (v := undef) rfl (by kernel_rfl) (by kernel_rfl) (by kernel_rfl) (fun _ _ _ h => h) (Or.inr ⟨by kernel_rfl, rfl⟩) ?_
  go_simp
  refine wpAny_take (i := 6) (v := undef) rfl (by kernel_rfl) (by kernel_rfl) (by kernel_rfl) (fun _ _ _ h => h) (Or.inr ⟨by kernel_rfl, rfl⟩) ?_
  refine wpAny_take (i := 7) (v := undef) rfl (by kernel_rfl) (by kernel_rfl) (by kernel_rfl) (fun _ _ _ h => h) (Or.inr ⟨by kernel_rfl, rfl⟩) ?_
  go_simp
  refine wpAny_take (i := 8) (v := undef) rfl (by kernel_rfl) (by kernel_rfl) (by kernel_rfl) (fun _ _ _ h => h) (Or.inr ⟨by kernel_rfl, rfl⟩) ?_
  refine wpAny_take (i := 9) (v := undef) rfl (by kernel_rfl) (by kernel_rfl) (by kernel_rfl) (fun _ _ _ h => h) (Or.inr ⟨by kernel_rfl, rfl⟩) ?_
  go_simp
  refine wpAny_take (i := 10) (v := undef) rfl (by kernel_rfl) (by kernel_rfl) (by kernel_rfl) (fun _ _ _ h => h) (Or.inr ⟨by kernel_rfl, rfl⟩) ?_
  refine wpAny_take (i := 11) (v := .bool false) rfl (by kernel_rfl) (by kernel_rfl) (by kernel_rfl) (fun _ _ _ h => h) (Or.inl ⟨by kernel_rfl, fun _ => by kernel_rfl⟩) ?_
  go_simp
  refine wpAny_done (by kernel_rfl) ?_ _
  go_wp2
  go_ret
  exact ⟨rfl, by assumption⟩
end

end Go.Proofs.YtlglijnaeaonpaaGreatDoor.Css
/- The lexer's next token. -/
namespace Go.Proofs.YtlglijnaeaonpaaGreatDoor.Css
open Go.RowKit

/-- A name, a function or an address begins at p, its first letter at p1: its kind, and where it ends. -/
inductive IL (t : List UInt8) (p p1 : Nat) : Int → Nat → Prop where
  | id : isSt (byte t p1) = true → (byte t (spanEnd t isNm (p1 + 1)) == 40) = false → IL t p p1 1 (spanEnd t isNm (p1 + 1))
  | fn (q : Nat) : isSt (byte t p1) = true → spanEnd t isNm (p1 + 1) = q → byte t q = 40 → eqFold (seg t p q) urlWord = false → IL t p p1 2 (q + 1)
  | url (q a b c : Nat) : isSt (byte t p1) = true → spanEnd t isNm (p1 + 1) = q → byte t q = 40 → eqFold (seg t p q) urlWord = true → spanEnd t isWS (q + 1) = a →
      (byte t a == 34) = false ∧ (byte t a == 39) = false → spanEnd t isUb a = b → byte t b = 41 ∨ isWS (byte t b) = true → spanEnd t isWS b = c → byte t c = 41 → IL t p p1 7 (c + 1)

/-- A number, a percentage or a dimension begins at p: its kind, and where it ends. -/
inductive NumT (t : List UInt8) (p : Nat) : Int → Nat → Prop where
  | pc (p3 : Nat) : fracEnd t (signEnd t p) = some p3 → byte t (expEnd t p3) = 37 → NumT t p 11 (expEnd t p3 + 1)
  | dim (p3 p1 : Nat) : fracEnd t (signEnd t p) = some p3 → (byte t (expEnd t p3) == 37) = false →
      ((byte t (expEnd t p3) == 45) = false ∧ p1 = expEnd t p3) ∨ ((byte t (expEnd t p3) == 45) = true ∧ (byte t (expEnd t p3 + 1) == 45) = false ∧ p1 = expEnd t p3 + 1) →
      isSt (byte t p1) = true → NumT t p 12 (spanEnd t isNm (p1 + 1))
  | num (p3 p1 : Nat) : fracEnd t (signEnd t p) = some p3 → (byte t (expEnd t p3) == 37) = false →
      ((byte t (expEnd t p3) == 45) = false ∧ p1 = expEnd t p3) ∨ ((byte t (expEnd t p3) == 45) = true ∧ (byte t (expEnd t p3 + 1) == 45) = false ∧ p1 = expEnd t p3 + 1) →
      isSt (byte t p1) = false → NumT t p 10 (expEnd t p3)

section
variable (X : Lx) (w0 w : World) (p s : Nat) (h : X.At w0 w p s) (hn : NoBs X.t)
include h hn
theorem il_any (p1 : Nat) (tt : Int) (q : Nat) (hps : s = p) (hp1 : ((byte X.t p == 45) = false ∧ p1 = p) ∨ ((byte X.t p == 45) = true ∧ (byte X.t (p + 1) == 45) = false ∧ p1 = p + 1)) (hi : IL X.t p p1 tt q) :
    Calls Tryz.prog 89 #[.pointer (some ⟨X.l, 0, none⟩)] w fun e w' => e = .returned (.int .u32 tt) ∧ X.At w0 w' q s := by
  cases hi with
  | id a b => exact il_id X w0 w p s h hn p1 hp1 a b
  | fn q a b c d => exact il_fn X w0 w p s h hn p1 q hps hp1 a b c d
  | url q a b c d e f g i j k l m n => exact il_url X w0 w p s h hn p1 q a b c hps hp1 d e f g i j k l m n
omit h hn in
theorem IL.ne {t : List UInt8} {p p1 q : Nat} {tt : Int} (h : IL t p p1 tt q) : (tt != 0) = true := by cases h <;> rfl
theorem numT_any (tt : Int) (q : Nat) (hi : NumT X.t p tt q) :
    Calls Tryz.prog 86 #[.pointer (some ⟨X.l, 0, none⟩)] w fun e w' => e = .returned (.int .u32 tt) ∧ X.At w0 w' q s := by
  cases hi with
  | pc p3 a b => exact numeric_pc X w0 w p s h p3 a b
  | dim p3 p1 a b c d =>
    have := numeric_id X w0 w p s h p3 hn a b p1 c
    rw [if_pos d, nameEnd_yes d] at this
    exact this
  | num p3 p1 a b c d =>
    have := numeric_id X w0 w p s h p3 hn a b p1 c
    rw [if_neg (by simp [d]), nameEnd_no d] at this
    exact this
end
theorem NumT.ne {t : List UInt8} {p q : Nat} {tt : Int} (h : NumT t p tt q) : (tt != 0) = true := by cases h <;> rfl

theorem expEnd_ge (t : List UInt8) (p : Nat) : p ≤ expEnd t p := by
  unfold expEnd
  split
  · split
    · have := spanEnd_ge t isDg (signEnd t (p + 1))
      have : p + 1 ≤ signEnd t (p + 1) := by unfold signEnd; split <;> omega
      omega
    · exact Nat.le_refl _
  · exact Nat.le_refl _
theorem signEnd_ge (t : List UInt8) (p : Nat) : p ≤ signEnd t p := by unfold signEnd; split <;> omega
theorem fracEnd_gt {t : List UInt8} {p q : Nat} (h : fracEnd t p = some q) : p < q := by
  unfold fracEnd at h
  split at h
  · rename_i hd
    have h1 := spanEnd_step (f := isDg) rfl hd
    have h2 := spanEnd_ge t isDg (p + 1)
    split at h
    · have h3 := spanEnd_ge t isDg (spanEnd t isDg p + 1)
      have := Option.some.inj h; omega
    · have := Option.some.inj h; omega
  · split at h
    · have h3 := spanEnd_ge t isDg (p + 1)
      have := Option.some.inj h; omega
    · cases h
theorem NumT.gt {t : List UInt8} {p q : Nat} {tt : Int} (h : NumT t p tt q) : p < q := by
  have h0 := signEnd_ge t p
  cases h with
  | pc p3 a b => have := fracEnd_gt a; have := expEnd_ge t p3; omega
  | dim p3 p1 a b c d =>
    have := fracEnd_gt a; have := expEnd_ge t p3; have := spanEnd_ge t isNm (p1 + 1)
    rcases c with ⟨_, rfl⟩ | ⟨_, _, rfl⟩ <;> omega
  | num p3 p1 a b c d => have := fracEnd_gt a; have := expEnd_ge t p3; omega
theorem IL.gt {t : List UInt8} {p p1 q : Nat} {tt : Int} (h : IL t p p1 tt q) (hp : p ≤ p1) : p < q := by
  cases h with
  | id a b => have := spanEnd_ge t isNm (p1 + 1); omega
  | fn q a b c d => have := spanEnd_ge t isNm (p1 + 1); omega
  | url q a b c d e f g i j k l m n =>
    have := spanEnd_ge t isNm (p1 + 1); have := spanEnd_ge t isWS (q + 1); have := spanEnd_ge t isUb a; have := spanEnd_ge t isWS b; omega

/-- The token that begins at p: its kind, and where it ends. -/
inductive Tk (t : List UInt8) (p : Nat) : Int → Nat → Prop where
  | ws : isWS (byte t p) = true → Tk t p 20 (spanEnd t isWS (p + 1))
  | one (c tt : Int) : byte t p = c → (c, tt) ∈ [((58 : Int), (23 : Int)), (59, 24), (44, 25)] → Tk t p tt (p + 1)
  | br (c tt : Int) : byte t p = c → (c, tt) ∈ [((40 : Int), (28 : Int)), (41, 29), (91, 26), (93, 27), (123, 30), (125, 31)] → Tk t p tt (p + 1)
  | hash : byte t p = 35 → isNm (byte t (p + 1)) = true → Tk t p 4 (spanEnd t isNm (p + 1))
  | str (q : Nat) : byte t p = 34 ∨ byte t p = 39 → p < q → byte t q = byte t p → (∀ i, p < i → i ≤ q → byte t i ≠ 0 ∧ byte t i ≠ 10 ∧ byte t i ≠ 13 ∧ byte t i ≠ 12) → (∀ i, p < i → i < q → byte t i ≠ byte t p) → Tk t p 5 (q + 1)
  | numD (tt : Int) (q : Nat) : isDg (byte t p) = true → NumT t p tt q → Tk t p tt q
  | numS (tt : Int) (q : Nat) : byte t p = 46 ∨ byte t p = 43 → NumT t p tt q → Tk t p tt q
  | delS : byte t p = 46 ∨ byte t p = 43 → fracEnd t (signEnd t p) = none → Tk t p 9 (p + 1)
  | hyI (tt : Int) (q : Nat) : byte t p = 45 → (byte t (p + 1) == 45) = false → IL t p (p + 1) tt q → Tk t p tt q
  | hyN (tt : Int) (q : Nat) : byte t p = 45 → (byte t (p + 1) == 45) = false → isSt (byte t (p + 1)) = false → NumT t p tt q → Tk t p tt q
  | at_ : byte t p = 64 → isSt (byte t (p + 1)) = true → Tk t p 3 (spanEnd t isNm (p + 1 + 1))
  | mt (c tt : Int) : byte t p = c → byte t (p + 1) = 61 → (c, tt) ∈ [((36 : Int), (17 : Int)), (42, 18), (94, 16), (126, 14), (124, 15)] → Tk t p tt (p + 2)
  | mdel : byte t p = 42 ∨ byte t p = 126 → (byte t (p + 1) == 61) = false → Tk t p 9 (p + 1)
  | uI (tt : Int) (q : Nat) : byte t p = 117 ∨ byte t p = 85 → (byte t (p + 1) == 43) = false ∨ (isHx (byte t (p + 2)) = false ∧ (byte t (p + 2) == 63) = false) → IL t p p tt q → Tk t p tt q
  | stI (tt : Int) (q : Nat) : isSt (byte t p) = true → byte t p ≠ 117 ∧ byte t p ≠ 85 → IL t p p tt q → Tk t p tt q
  | del : byte t p = 62 ∨ byte t p = 61 → Tk t p 9 (p + 1)

/-- What the lexer gives. -/
def Lx.Gives (X : Lx) (w0 : World) (p : Nat) (tt : Int) (q : Nat) (e : Ending) (w' : World) : Prop :=
  e = .returned (.tuple #[.int .u32 tt, .slice (some ⟨X.b, X.off + p, none⟩) (q - p) (q - p)]) ∧ X.At w0 w' q q

/-- None of the bytes at which the lexer looks one by one. -/
def NoSp (c : Int) : Prop := (c == 32) = false ∧ (c == 9) = false ∧ (c == 10) = false ∧ (c == 13) = false ∧ (c == 12) = false ∧ (c == 58) = false ∧ (c == 59) = false ∧ (c == 44) = false ∧
  (c == 40) = false ∧ (c == 41) = false ∧ (c == 91) = false ∧ (c == 93) = false ∧ (c == 123) = false ∧ (c == 125) = false ∧ (c == 35) = false ∧ (c == 34) = false ∧ (c == 39) = false ∧ (c == 46) = false ∧
  (c == 43) = false ∧ (c == 45) = false ∧ (c == 64) = false ∧ (c == 36) = false ∧ (c == 42) = false ∧ (c == 94) = false ∧ (c == 126) = false ∧ (c == 47) = false ∧ (c == 60) = false ∧ (c == 92) = false ∧
  (c == 117) = false ∧ (c == 85) = false ∧ (c == 124) = false ∧ (c == 0) = false
theorem noSp_of {c : Int} (h : (isDg c = true) ∨ (isSt c = true ∧ c ≠ 117 ∧ c ≠ 85) ∨ c = 61 ∨ c = 62) : NoSp c := by
  have h' : (48 ≤ c ∧ c ≤ 57) ∨ (((97 ≤ c ∧ c ≤ 122) ∨ (65 ≤ c ∧ c ≤ 90) ∨ c = 95 ∨ 128 ≤ c) ∧ c ≠ 117 ∧ c ≠ 85) ∨ c = 61 ∨ c = 62 := by
    rcases h with h | ⟨h, h2⟩ | h
    · exact .inl (isDg_yes h)
    · exact .inr (.inl ⟨isSt_yes h, h2⟩)
    · exact .inr (.inr h)
  unfold NoSp
  refine ⟨?_, ?_, ?_, ?_, ?_, ?_, ?_, ?_, ?_, ?_, ?_, ?_, ?_, ?_, ?_, ?_, ?_, ?_, ?_, ?_, ?_, ?_, ?_, ?_, ?_, ?_, ?_, ?_, ?_, ?_, ?_, ?_⟩ <;> exact beq_eq_false_iff_ne.2 (by omega)

end Go.Proofs.YtlglijnaeaonpaaGreatDoor.Css
/- The lexer's next token, kind by kind. -/
namespace Go.Proofs.YtlglijnaeaonpaaGreatDoor.Css
open Go.RowKit

theorem Lx.Gives.mk {X : Lx} {w0 w' : World} {p q n : Nat} {tt : Int} (hn : n = q - p) (h : X.At w0 w' q q) :
    X.Gives w0 p tt q (.returned (.tuple #[.int .u32 tt, .slice (some ⟨X.b, X.off + p, none⟩) n n])) w' := by subst hn; exact ⟨rfl, h⟩


section
variable (X : Lx) (w0 w : World) (p : Nat) (h : X.At w0 w p p)
include h
set_option maxRecDepth 100000 in
set_option maxHeartbeats 1000000 in
theorem nx_ws (hc : isWS (byte X.t p) = true) : Calls Tryz.prog 63 #[.pointer (some ⟨X.l, 0, none⟩)] w (X.Gives w0 p 20 (spanEnd X.t isWS (p + 1))) := by
  have hl := h.c0
  have hlt := lt_of_class (f := isWS) rfl hc
  have hge := spanEnd_ge X.t isWS (p + 1)
  replace hc := isWS_yes hc
  rcases hc with hc | hc | hc | hc | hc
  all_goals
    go_enter Tryz.func63, Tryz.ntmps63
    go_wp2_with (first | (go_at_call 80; ((with_reducible refine ((peek0 X w0 _ _ _ (by assumption))).mono ?_); (rintro e w' ⟨rfl, rfl⟩))) | (go_at_call 58; ((with_reducible refine ((move1 X w0 _ _ _ (by assumption) (by omega))).mono ?_); (rintro e w' ⟨rfl, hA⟩); (have hl := Lx.At.c0 hA))))
    go_loopg [] (X.t.length - (p + 1)) (fun k  wr => ∃ jj, p + 1 ≤ jj ∧ jj ≤ X.t.length ∧ k = X.t.length - jj ∧ X.At w0 wr jj p ∧ spanEnd X.t isWS jj = spanEnd X.t isWS (p + 1))
    case atStart => exact ⟨p + 1, Nat.le_refl _, by omega, rfl, by assumption, rfl⟩
    case round =>
      obtain ⟨jj, hq1, hq2, hk, hA, hE⟩ := hrel
      have hl := Lx.At.c0 hA
      have HE := Lib.hid hE
      clear hE
      cases hq : isWS (byte X.t jj) with
      | true =>
        have hlq := lt_of_class (f := isWS) rfl hq
        have HS := Lib.hid (spanEnd_step (f := isWS) rfl hq)
        go_wp2_with (first | (go_at_call 81; ((with_reducible refine ((ws_yes X w0 _ _ _ (by assumption) (by assumption))).mono ?_); (rintro e w' ⟨rfl, hA⟩); (have hl := Lx.At.c0 hA))))
        go_roundg (X.t.length - (jj + 1))
        case measure => omega
        case rel => exact ⟨jj + 1, by omega, by omega, rfl, by assumption, HS.out.symm.trans HE.out⟩
      | false =>
        have HS := Lib.hid (spanEnd_stop (f := isWS) hq)
        go_wp2_with (first | (go_at_call 81; ((with_reducible refine ((ws_no X w0 _ _ _ (by assumption) (by assumption))).mono ?_); (rintro e w' ⟨rfl, hA⟩); (have hl := Lx.At.c0 hA))))
        have hA' := hA
        rw [← HS.out, HE.out] at hA'
        (clear hA; go_wp2_with (first | (go_at_call 82; ((with_reducible refine (shift_any X w0 _ _ _ hA' (by omega)).mono ?_); (rintro e w' ⟨rfl, hA⟩)))); go_ret2; exact Lx.Gives.mk (by omega) hA)
set_option maxRecDepth 100000 in
set_option maxHeartbeats 1000000 in
theorem nx_58 (hc : byte X.t p = 58) : Calls Tryz.prog 63 #[.pointer (some ⟨X.l, 0, none⟩)] w (X.Gives w0 p 23 (p + 1)) := by
  have hl := h.c0
  have hlt := lt_of_byte (t := X.t) (p := p) (by rw [hc]; decide)
  go_enter Tryz.func63, Tryz.ntmps63
  go_wp2_with (first | (go_at_call 80; ((with_reducible refine ((peek0 X w0 _ _ _ (by assumption))).mono ?_); (rintro e w' ⟨rfl, rfl⟩))) | (go_at_call 58; ((with_reducible refine ((move1 X w0 _ _ _ (by assumption) (by omega))).mono ?_); (rintro e w' ⟨rfl, hA⟩); (have hl := Lx.At.c0 hA))) | (go_at_call 82; ((with_reducible refine ((shift_any X w0 _ _ _ (by assumption) (by omega))).mono ?_); (rintro e w' ⟨rfl, hA⟩); (have hl := Lx.At.c0 hA))))
  all_goals (go_ret2; exact Lx.Gives.mk (by omega) (by assumption))
set_option maxRecDepth 100000 in
set_option maxHeartbeats 1000000 in
theorem nx_59 (hc : byte X.t p = 59) : Calls Tryz.prog 63 #[.pointer (some ⟨X.l, 0, none⟩)] w (X.Gives w0 p 24 (p + 1)) := by
  have hl := h.c0
  have hlt := lt_of_byte (t := X.t) (p := p) (by rw [hc]; decide)
  go_enter Tryz.func63, Tryz.ntmps63
  go_wp2_with (first | (go_at_call 80; ((with_reducible refine ((peek0 X w0 _ _ _ (by assumption))).mono ?_); (rintro e w' ⟨rfl, rfl⟩))) | (go_at_call 58; ((with_reducible refine ((move1 X w0 _ _ _ (by assumption) (by omega))).mono ?_); (rintro e w' ⟨rfl, hA⟩); (have hl := Lx.At.c0 hA))) | (go_at_call 82; ((with_reducible refine ((shift_any X w0 _ _ _ (by assumption) (by omega))).mono ?_); (rintro e w' ⟨rfl, hA⟩); (have hl := Lx.At.c0 hA))))
  all_goals (go_ret2; exact Lx.Gives.mk (by omega) (by assumption))
set_option maxRecDepth 100000 in
set_option maxHeartbeats 1000000 in
theorem nx_44 (hc : byte X.t p = 44) : Calls Tryz.prog 63 #[.pointer (some ⟨X.l, 0, none⟩)] w (X.Gives w0 p 25 (p + 1)) := by
  have hl := h.c0
  have hlt := lt_of_byte (t := X.t) (p := p) (by rw [hc]; decide)
  go_enter Tryz.func63, Tryz.ntmps63
  go_wp2_with (first | (go_at_call 80; ((with_reducible refine ((peek0 X w0 _ _ _ (by assumption))).mono ?_); (rintro e w' ⟨rfl, rfl⟩))) | (go_at_call 58; ((with_reducible refine ((move1 X w0 _ _ _ (by assumption) (by omega))).mono ?_); (rintro e w' ⟨rfl, hA⟩); (have hl := Lx.At.c0 hA))) | (go_at_call 82; ((with_reducible refine ((shift_any X w0 _ _ _ (by assumption) (by omega))).mono ?_); (rintro e w' ⟨rfl, hA⟩); (have hl := Lx.At.c0 hA))))
  all_goals (go_ret2; exact Lx.Gives.mk (by omega) (by assumption))
set_option maxRecDepth 100000 in
set_option maxHeartbeats 1000000 in
theorem nx_40 (hc : byte X.t p = 40) : Calls Tryz.prog 63 #[.pointer (some ⟨X.l, 0, none⟩)] w (X.Gives w0 p 28 (p + 1)) := by
  have hl := h.c0
  have hlt := lt_of_byte (t := X.t) (p := p) (by rw [hc]; decide)
  go_enter Tryz.func63, Tryz.ntmps63
  go_wp2_with (first | (go_at_call 80; ((with_reducible refine ((peek0 X w0 _ _ _ (by assumption))).mono ?_); (rintro e w' ⟨rfl, rfl⟩))) | (go_at_call 58; ((with_reducible refine ((move1 X w0 _ _ _ (by assumption) (by omega))).mono ?_); (rintro e w' ⟨rfl, hA⟩); (have hl := Lx.At.c0 hA))) | (go_at_call 82; ((with_reducible refine ((shift_any X w0 _ _ _ (by assumption) (by omega))).mono ?_); (rintro e w' ⟨rfl, hA⟩); (have hl := Lx.At.c0 hA))) | (go_at_call 83; go_in))
  all_goals (go_ret2; exact Lx.Gives.mk (by omega) (by assumption))
set_option maxRecDepth 100000 in
set_option maxHeartbeats 1000000 in
theorem nx_41 (hc : byte X.t p = 41) : Calls Tryz.prog 63 #[.pointer (some ⟨X.l, 0, none⟩)] w (X.Gives w0 p 29 (p + 1)) := by
  have hl := h.c0
  have hlt := lt_of_byte (t := X.t) (p := p) (by rw [hc]; decide)
  go_enter Tryz.func63, Tryz.ntmps63
  go_wp2_with (first | (go_at_call 80; ((with_reducible refine ((peek0 X w0 _ _ _ (by assumption))).mono ?_); (rintro e w' ⟨rfl, rfl⟩))) | (go_at_call 58; ((with_reducible refine ((move1 X w0 _ _ _ (by assumption) (by omega))).mono ?_); (rintro e w' ⟨rfl, hA⟩); (have hl := Lx.At.c0 hA))) | (go_at_call 82; ((with_reducible refine ((shift_any X w0 _ _ _ (by assumption) (by omega))).mono ?_); (rintro e w' ⟨rfl, hA⟩); (have hl := Lx.At.c0 hA))) | (go_at_call 83; go_in))
  all_goals (go_ret2; exact Lx.Gives.mk (by omega) (by assumption))
set_option maxRecDepth 100000 in
set_option maxHeartbeats 1000000 in
theorem nx_91 (hc : byte X.t p = 91) : Calls Tryz.prog 63 #[.pointer (some ⟨X.l, 0, none⟩)] w (X.Gives w0 p 26 (p + 1)) := by
  have hl := h.c0
  have hlt := lt_of_byte (t := X.t) (p := p) (by rw [hc]; decide)
  go_enter Tryz.func63, Tryz.ntmps63
  go_wp2_with (first | (go_at_call 80; ((with_reducible refine ((peek0 X w0 _ _ _ (by assumption))).mono ?_); (rintro e w' ⟨rfl, rfl⟩))) | (go_at_call 58; ((with_reducible refine ((move1 X w0 _ _ _ (by assumption) (by omega))).mono ?_); (rintro e w' ⟨rfl, hA⟩); (have hl := Lx.At.c0 hA))) | (go_at_call 82; ((with_reducible refine ((shift_any X w0 _ _ _ (by assumption) (by omega))).mono ?_); (rintro e w' ⟨rfl, hA⟩); (have hl := Lx.At.c0 hA))) | (go_at_call 83; go_in))
  all_goals (go_ret2; exact Lx.Gives.mk (by omega) (by assumption))
set_option maxRecDepth 100000 in
set_option maxHeartbeats 1000000 in
theorem nx_93 (hc : byte X.t p = 93) : Calls Tryz.prog 63 #[.pointer (some ⟨X.l, 0, none⟩)] w (X.Gives w0 p 27 (p + 1)) := by
  have hl := h.c0
  have hlt := lt_of_byte (t := X.t) (p := p) (by rw [hc]; decide)
  go_enter Tryz.func63, Tryz.ntmps63
  go_wp2_with (first | (go_at_call 80; ((with_reducible refine ((peek0 X w0 _ _ _ (by assumption))).mono ?_); (rintro e w' ⟨rfl, rfl⟩))) | (go_at_call 58; ((with_reducible refine ((move1 X w0 _ _ _ (by assumption) (by omega))).mono ?_); (rintro e w' ⟨rfl, hA⟩); (have hl := Lx.At.c0 hA))) | (go_at_call 82; ((with_reducible refine ((shift_any X w0 _ _ _ (by assumption) (by omega))).mono ?_); (rintro e w' ⟨rfl, hA⟩); (have hl := Lx.At.c0 hA))) | (go_at_call 83; go_in))
  all_goals (go_ret2; exact Lx.Gives.mk (by omega) (by assumption))
set_option maxRecDepth 100000 in
set_option maxHeartbeats 1000000 in
theorem nx_123 (hc : byte X.t p = 123) : Calls Tryz.prog 63 #[.pointer (some ⟨X.l, 0, none⟩)] w (X.Gives w0 p 30 (p + 1)) := by
  have hl := h.c0
  have hlt := lt_of_byte (t := X.t) (p := p) (by rw [hc]; decide)
  go_enter Tryz.func63, Tryz.ntmps63
  go_wp2_with (first | (go_at_call 80; ((with_reducible refine ((peek0 X w0 _ _ _ (by assumption))).mono ?_); (rintro e w' ⟨rfl, rfl⟩))) | (go_at_call 58; ((with_reducible refine ((move1 X w0 _ _ _ (by assumption) (by omega))).mono ?_); (rintro e w' ⟨rfl, hA⟩); (have hl := Lx.At.c0 hA))) | (go_at_call 82; ((with_reducible refine ((shift_any X w0 _ _ _ (by assumption) (by omega))).mono ?_); (rintro e w' ⟨rfl, hA⟩); (have hl := Lx.At.c0 hA))) | (go_at_call 83; go_in))
  all_goals (go_ret2; exact Lx.Gives.mk (by omega) (by assumption))
set_option maxRecDepth 100000 in
set_option maxHeartbeats 1000000 in
theorem nx_125 (hc : byte X.t p = 125) : Calls Tryz.prog 63 #[.pointer (some ⟨X.l, 0, none⟩)] w (X.Gives w0 p 31 (p + 1)) := by
  have hl := h.c0
  have hlt := lt_of_byte (t := X.t) (p := p) (by rw [hc]; decide)
  go_enter Tryz.func63, Tryz.ntmps63
  go_wp2_with (first | (go_at_call 80; ((with_reducible refine ((peek0 X w0 _ _ _ (by assumption))).mono ?_); (rintro e w' ⟨rfl, rfl⟩))) | (go_at_call 58; ((with_reducible refine ((move1 X w0 _ _ _ (by assumption) (by omega))).mono ?_); (rintro e w' ⟨rfl, hA⟩); (have hl := Lx.At.c0 hA))) | (go_at_call 82; ((with_reducible refine ((shift_any X w0 _ _ _ (by assumption) (by omega))).mono ?_); (rintro e w' ⟨rfl, hA⟩); (have hl := Lx.At.c0 hA))) | (go_at_call 83; go_in))
  all_goals (go_ret2; exact Lx.Gives.mk (by omega) (by assumption))
set_option maxRecDepth 100000 in
set_option maxHeartbeats 1000000 in
theorem nx_hash (hn : NoBs X.t) (hc : byte X.t p = 35) (hm : isNm (byte X.t (p + 1)) = true) : Calls Tryz.prog 63 #[.pointer (some ⟨X.l, 0, none⟩)] w (X.Gives w0 p 4 (spanEnd X.t isNm (p + 1))) := by
  have hl := h.c0
  have hge := spanEnd_ge X.t isNm (p + 1)
  have H0 : Hid (byte X.t p ≠ 0) := by unfold Hid; rw [hc]; decide
  have HM := Lib.hid hm
  go_enter Tryz.func63, Tryz.ntmps63
  go_wp2_with (first | (go_at_call 80; ((with_reducible refine ((peek0 X w0 _ _ _ (by assumption))).mono ?_); (rintro e w' ⟨rfl, rfl⟩))) | (go_at_call 82; ((with_reducible refine ((shift_any X w0 _ _ _ (by assumption) (by omega))).mono ?_); (rintro e w' ⟨rfl, hA⟩); (have hl := Lx.At.c0 hA))) | (go_at_call 84; ((with_reducible refine (hash_yes X w0 _ _ _ (by assumption) hn H0.out HM.out).mono ?_); (rintro e w' ⟨rfl, hA⟩); (have hl := Lx.At.c0 hA))))
  all_goals (go_ret2; exact Lx.Gives.mk (by omega) (by assumption))
set_option maxRecDepth 100000 in
set_option maxHeartbeats 1000000 in
theorem nx_str34 (hn : NoBs X.t) (q : Nat) (hc : byte X.t p = 34) (hpq : p < q) (hqc : byte X.t q = byte X.t p) (hb : ∀ i, p < i → i ≤ q → byte X.t i ≠ 0 ∧ byte X.t i ≠ 10 ∧ byte X.t i ≠ 13 ∧ byte X.t i ≠ 12) (hd : ∀ i, p < i → i < q → byte X.t i ≠ byte X.t p) : Calls Tryz.prog 63 #[.pointer (some ⟨X.l, 0, none⟩)] w (X.Gives w0 p 5 (q + 1)) := by
  have hl := h.c0
  have H1 := Lib.hid hqc
  have H2 := Lib.hid hb
  have H3 := Lib.hid hd
  clear hqc hb hd
  go_enter Tryz.func63, Tryz.ntmps63
  go_wp2_with (first | (go_at_call 80; ((with_reducible refine ((peek0 X w0 _ _ _ (by assumption))).mono ?_); (rintro e w' ⟨rfl, rfl⟩))) | (go_at_call 82; ((with_reducible refine ((shift_any X w0 _ _ _ (by assumption) (by omega))).mono ?_); (rintro e w' ⟨rfl, hA⟩); (have hl := Lx.At.c0 hA))) | (go_at_call 85; ((with_reducible refine (str_any X w0 _ _ _ (by assumption) hn q hpq H1.out H2.out H3.out).mono ?_); (rintro e w' ⟨rfl, hA⟩); (have hl := Lx.At.c0 hA))))
  all_goals (go_ret2; exact Lx.Gives.mk (by omega) (by assumption))
set_option maxRecDepth 100000 in
set_option maxHeartbeats 1000000 in
theorem nx_str39 (hn : NoBs X.t) (q : Nat) (hc : byte X.t p = 39) (hpq : p < q) (hqc : byte X.t q = byte X.t p) (hb : ∀ i, p < i → i ≤ q → byte X.t i ≠ 0 ∧ byte X.t i ≠ 10 ∧ byte X.t i ≠ 13 ∧ byte X.t i ≠ 12) (hd : ∀ i, p < i → i < q → byte X.t i ≠ byte X.t p) : Calls Tryz.prog 63 #[.pointer (some ⟨X.l, 0, none⟩)] w (X.Gives w0 p 5 (q + 1)) := by
  have hl := h.c0
  have H1 := Lib.hid hqc
  have H2 := Lib.hid hb
  have H3 := Lib.hid hd
  clear hqc hb hd
  go_enter Tryz.func63, Tryz.ntmps63
  go_wp2_with (first | (go_at_call 80; ((with_reducible refine ((peek0 X w0 _ _ _ (by assumption))).mono ?_); (rintro e w' ⟨rfl, rfl⟩))) | (go_at_call 82; ((with_reducible refine ((shift_any X w0 _ _ _ (by assumption) (by omega))).mono ?_); (rintro e w' ⟨rfl, hA⟩); (have hl := Lx.At.c0 hA))) | (go_at_call 85; ((with_reducible refine (str_any X w0 _ _ _ (by assumption) hn q hpq H1.out H2.out H3.out).mono ?_); (rintro e w' ⟨rfl, hA⟩); (have hl := Lx.At.c0 hA))))
  all_goals (go_ret2; exact Lx.Gives.mk (by omega) (by assumption))
end

end Go.Proofs.YtlglijnaeaonpaaGreatDoor.Css
/- The lexer's next token, kind by kind: numbers, names, signs. -/
namespace Go.Proofs.YtlglijnaeaonpaaGreatDoor.Css
open Go.RowKit

/-- Where the first letter of a name stands: at p, or behind one hyphen. -/
def PosOk (t : List UInt8) (p p1 : Nat) : Prop := ((byte t p == 45) = false ∧ p1 = p) ∨ ((byte t p == 45) = true ∧ (byte t (p + 1) == 45) = false ∧ p1 = p + 1)
theorem PosOk.out {t : List UInt8} {p p1 : Nat} (h : PosOk t p p1) : ((byte t p == 45) = false ∧ p1 = p) ∨ ((byte t p == 45) = true ∧ (byte t (p + 1) == 45) = false ∧ p1 = p + 1) := h

section
variable (X : Lx) (w0 w : World) (p : Nat) (h : X.At w0 w p p)
include h
set_option maxRecDepth 100000 in
set_option maxHeartbeats 1000000 in
theorem nx_num46 (hn : NoBs X.t) (tt : Int) (q : Nat) (hc : byte X.t p = 46) (hi : NumT X.t p tt q) : Calls Tryz.prog 63 #[.pointer (some ⟨X.l, 0, none⟩)] w (X.Gives w0 p tt q) := by
  have hl := h.c0
  have hgt := hi.gt
  have HN := Lib.hid hi
  have hne := hi.ne
  clear hi
  go_enter Tryz.func63, Tryz.ntmps63
  go_wp2_with (first | (go_at_call 80; ((with_reducible refine ((peek0 X w0 _ _ _ (by assumption))).mono ?_); (rintro e w' ⟨rfl, rfl⟩))) | (go_at_call 82; ((with_reducible refine ((shift_any X w0 _ _ _ (by assumption) (by omega))).mono ?_); (rintro e w' ⟨rfl, hA⟩); (have hl := Lx.At.c0 hA))) | (go_at_call 86; ((with_reducible refine (numT_any X w0 _ _ _ (by assumption) hn _ _ HN.out).mono ?_); (rintro e w' ⟨rfl, hA⟩); (have hl := Lx.At.c0 hA))))
  all_goals (go_ret2; exact Lx.Gives.mk (by omega) (by assumption))
set_option maxRecDepth 100000 in
set_option maxHeartbeats 1000000 in
theorem nx_del46 (hc : byte X.t p = 46) (hi : fracEnd X.t (signEnd X.t p) = none) : Calls Tryz.prog 63 #[.pointer (some ⟨X.l, 0, none⟩)] w (X.Gives w0 p 9 (p + 1)) := by
  have hl := h.c0
  have hlt := lt_of_byte (t := X.t) (p := p) (by rw [hc]; decide)
  have HN := Lib.hid hi
  clear hi
  go_enter Tryz.func63, Tryz.ntmps63
  go_wp2_with (first | (go_at_call 80; ((with_reducible refine ((peek0 X w0 _ _ _ (by assumption))).mono ?_); (rintro e w' ⟨rfl, rfl⟩))) | (go_at_call 58; ((with_reducible refine ((move1 X w0 _ _ _ (by assumption) (by omega))).mono ?_); (rintro e w' ⟨rfl, hA⟩); (have hl := Lx.At.c0 hA))) | (go_at_call 82; ((with_reducible refine ((shift_any X w0 _ _ _ (by assumption) (by omega))).mono ?_); (rintro e w' ⟨rfl, hA⟩); (have hl := Lx.At.c0 hA))) | (go_at_call 86; ((with_reducible refine (numeric_no X w0 _ _ _ (by assumption) HN.out).mono ?_); (rintro e w' ⟨rfl, hA⟩); (have hl := Lx.At.c0 hA))))
  all_goals (go_ret2; exact Lx.Gives.mk (by omega) (by assumption))
set_option maxRecDepth 100000 in
set_option maxHeartbeats 1000000 in
theorem nx_num43 (hn : NoBs X.t) (tt : Int) (q : Nat) (hc : byte X.t p = 43) (hi : NumT X.t p tt q) : Calls Tryz.prog 63 #[.pointer (some ⟨X.l, 0, none⟩)] w (X.Gives w0 p tt q) := by
  have hl := h.c0
  have hgt := hi.gt
  have HN := Lib.hid hi
  have hne := hi.ne
  clear hi
  go_enter Tryz.func63, Tryz.ntmps63
  go_wp2_with (first | (go_at_call 80; ((with_reducible refine ((peek0 X w0 _ _ _ (by assumption))).mono ?_); (rintro e w' ⟨rfl, rfl⟩))) | (go_at_call 82; ((with_reducible refine ((shift_any X w0 _ _ _ (by assumption) (by omega))).mono ?_); (rintro e w' ⟨rfl, hA⟩); (have hl := Lx.At.c0 hA))) | (go_at_call 86; ((with_reducible refine (numT_any X w0 _ _ _ (by assumption) hn _ _ HN.out).mono ?_); (rintro e w' ⟨rfl, hA⟩); (have hl := Lx.At.c0 hA))))
  all_goals (go_ret2; exact Lx.Gives.mk (by omega) (by assumption))
set_option maxRecDepth 100000 in
set_option maxHeartbeats 1000000 in
theorem nx_del43 (hc : byte X.t p = 43) (hi : fracEnd X.t (signEnd X.t p) = none) : Calls Tryz.prog 63 #[.pointer (some ⟨X.l, 0, none⟩)] w (X.Gives w0 p 9 (p + 1)) := by
  have hl := h.c0
  have hlt := lt_of_byte (t := X.t) (p := p) (by rw [hc]; decide)
  have HN := Lib.hid hi
  clear hi
  go_enter Tryz.func63, Tryz.ntmps63
  go_wp2_with (first | (go_at_call 80; ((with_reducible refine ((peek0 X w0 _ _ _ (by assumption))).mono ?_); (rintro e w' ⟨rfl, rfl⟩))) | (go_at_call 58; ((with_reducible refine ((move1 X w0 _ _ _ (by assumption) (by omega))).mono ?_); (rintro e w' ⟨rfl, hA⟩); (have hl := Lx.At.c0 hA))) | (go_at_call 82; ((with_reducible refine ((shift_any X w0 _ _ _ (by assumption) (by omega))).mono ?_); (rintro e w' ⟨rfl, hA⟩); (have hl := Lx.At.c0 hA))) | (go_at_call 86; ((with_reducible refine (numeric_no X w0 _ _ _ (by assumption) HN.out).mono ?_); (rintro e w' ⟨rfl, hA⟩); (have hl := Lx.At.c0 hA))))
  all_goals (go_ret2; exact Lx.Gives.mk (by omega) (by assumption))
set_option maxRecDepth 100000 in
set_option maxHeartbeats 1000000 in
theorem nx_hyI (hn : NoBs X.t) (tt : Int) (q : Nat) (hc : byte X.t p = 45) (h45 : (byte X.t (p + 1) == 45) = false) (hi : IL X.t p (p + 1) tt q) : Calls Tryz.prog 63 #[.pointer (some ⟨X.l, 0, none⟩)] w (X.Gives w0 p tt q) := by
  have hl := h.c0
  have hlt := lt_of_byte (t := X.t) (p := p) (by rw [hc]; decide)
  have HP : PosOk X.t p (p + 1) := ( .inr ⟨beq_iff_eq.2 hc, h45, rfl⟩)
  have h45' : (byte X.t (p + 1) != 45) = true := by simp [bne, h45]
  have hgt := hi.gt (by omega)
  have HI := Lib.hid hi
  have hne := hi.ne
  clear hi
  go_enter Tryz.func63, Tryz.ntmps63
  go_wp2_with (first | (go_at_call 80; ((with_reducible refine ((peek0 X w0 _ _ _ (by assumption))).mono ?_); (rintro e w' ⟨rfl, rfl⟩))) | (go_at_call 80; ((with_reducible refine ((peek1 X w0 _ _ _ (by assumption) (by omega))).mono ?_); (rintro e w' ⟨rfl, rfl⟩))) | (go_at_call 82; ((with_reducible refine ((shift_any X w0 _ _ _ (by assumption) (by omega))).mono ?_); (rintro e w' ⟨rfl, hA⟩); (have hl := Lx.At.c0 hA))) | (go_at_call 87; go_in) | (go_at_call 88; go_in) | (go_at_call 89; ((with_reducible refine (il_any X w0 _ _ _ (by assumption) hn _ _ _ rfl HP.out HI.out).mono ?_); (rintro e w' ⟨rfl, hA⟩); (have hl := Lx.At.c0 hA))))
  all_goals (go_ret2; exact Lx.Gives.mk (by omega) (by assumption))
set_option maxRecDepth 100000 in
set_option maxHeartbeats 1000000 in
theorem nx_hyN (hn : NoBs X.t) (tt : Int) (q : Nat) (hc : byte X.t p = 45) (h45 : (byte X.t (p + 1) == 45) = false) (hs : isSt (byte X.t (p + 1)) = false) (hi : NumT X.t p tt q) : Calls Tryz.prog 63 #[.pointer (some ⟨X.l, 0, none⟩)] w (X.Gives w0 p tt q) := by
  have hl := h.c0
  have hlt := lt_of_byte (t := X.t) (p := p) (by rw [hc]; decide)
  have HP : PosOk X.t p (p + 1) := ( .inr ⟨beq_iff_eq.2 hc, h45, rfl⟩)
  have h45' : (byte X.t (p + 1) != 45) = true := by simp [bne, h45]
  have hgt := hi.gt
  have HN := Lib.hid hi
  have HI := Lib.hid hs
  have hne := hi.ne
  clear hi hs
  go_enter Tryz.func63, Tryz.ntmps63
  go_wp2_with (first | (go_at_call 80; ((with_reducible refine ((peek0 X w0 _ _ _ (by assumption))).mono ?_); (rintro e w' ⟨rfl, rfl⟩))) | (go_at_call 80; ((with_reducible refine ((peek1 X w0 _ _ _ (by assumption) (by omega))).mono ?_); (rintro e w' ⟨rfl, rfl⟩))) | (go_at_call 82; ((with_reducible refine ((shift_any X w0 _ _ _ (by assumption) (by omega))).mono ?_); (rintro e w' ⟨rfl, hA⟩); (have hl := Lx.At.c0 hA))) | (go_at_call 87; go_in) | (go_at_call 88; go_in) | (go_at_call 89; ((with_reducible refine (il_no X w0 _ _ _ (by assumption) hn _ HP.out HI.out).mono ?_); (rintro e w' ⟨rfl, hA⟩); (have hl := Lx.At.c0 hA))) | (go_at_call 86; ((with_reducible refine (numT_any X w0 _ _ _ (by assumption) hn _ _ HN.out).mono ?_); (rintro e w' ⟨rfl, hA⟩); (have hl := Lx.At.c0 hA))))
  all_goals (go_ret2; exact Lx.Gives.mk (by omega) (by assumption))
set_option maxRecDepth 100000 in
set_option maxHeartbeats 1000000 in
theorem nx_at (hn : NoBs X.t) (hc : byte X.t p = 64) (hs : isSt (byte X.t (p + 1)) = true) : Calls Tryz.prog 63 #[.pointer (some ⟨X.l, 0, none⟩)] w (X.Gives w0 p 3 (spanEnd X.t isNm (p + 1 + 1))) := by
  have hl := h.c0
  have hlt := lt_of_byte (t := X.t) (p := p) (by rw [hc]; decide)
  have hge := spanEnd_ge X.t isNm (p + 1 + 1)
  have h45 : byte X.t (p + 1) ≠ 45 := by intro e; rw [e] at hs; exact absurd hs (by decide)
  have HP : PosOk X.t (p + 1) (p + 1) := ( .inl ⟨beq_eq_false_iff_ne.2 h45, rfl⟩)
  have HN := Lib.hid (nameEnd_yes (t := X.t) (p := p + 1) hs)
  clear h45
  go_enter Tryz.func63, Tryz.ntmps63
  go_wp2_with (first | (go_at_call 80; ((with_reducible refine ((peek0 X w0 _ _ _ (by assumption))).mono ?_); (rintro e w' ⟨rfl, rfl⟩))) | (go_at_call 58; ((with_reducible refine ((move1 X w0 _ _ _ (by assumption) (by omega))).mono ?_); (rintro e w' ⟨rfl, hA⟩); (have hl := Lx.At.c0 hA))) | (go_at_call 82; ((with_reducible refine ((shift_any X w0 _ _ _ (by assumption) (by omega))).mono ?_); (rintro e w' ⟨rfl, hA⟩); (have hl := Lx.At.c0 hA))) | (go_at_call 90; go_in) | (go_at_call 123; ((with_reducible refine (id_any X w0 _ _ _ (by assumption) hn _ HP.out).mono ?_); (rintro e w' ⟨rfl, hA⟩); rw [HN.out] at hA; (have hl := Lx.At.c0 hA))))
  all_goals (go_ret2; exact Lx.Gives.mk (by omega) (by assumption))
set_option maxRecDepth 100000 in
set_option maxHeartbeats 1000000 in
theorem nx_mt36 (hc : byte X.t p = 36) (h61 : byte X.t (p + 1) = 61) : Calls Tryz.prog 63 #[.pointer (some ⟨X.l, 0, none⟩)] w (X.Gives w0 p 17 (p + 2)) := by
  have hl := h.c0
  have hlt := lt_of_byte (t := X.t) (p := p) (by rw [hc]; decide)
  have hlt1 := lt_of_byte (t := X.t) (p := p + 1) (by rw [h61]; decide)
  go_enter Tryz.func63, Tryz.ntmps63
  go_wp2_with (first | (go_at_call 80; ((with_reducible refine ((peek0 X w0 _ _ _ (by assumption))).mono ?_); (rintro e w' ⟨rfl, rfl⟩))) | (go_at_call 80; ((with_reducible refine ((peek1 X w0 _ _ _ (by assumption) (by omega))).mono ?_); (rintro e w' ⟨rfl, rfl⟩))) | (go_at_call 58; ((with_reducible refine ((move2 X w0 _ _ _ (by assumption) (by omega))).mono ?_); (rintro e w' ⟨rfl, hA⟩); (have hl := Lx.At.c0 hA))) | (go_at_call 82; ((with_reducible refine ((shift_any X w0 _ _ _ (by assumption) (by omega))).mono ?_); (rintro e w' ⟨rfl, hA⟩); (have hl := Lx.At.c0 hA))) | (go_at_call 91; go_in))
  all_goals (go_ret2; exact Lx.Gives.mk (by omega) (by assumption))
set_option maxRecDepth 100000 in
set_option maxHeartbeats 1000000 in
theorem nx_mt42 (hc : byte X.t p = 42) (h61 : byte X.t (p + 1) = 61) : Calls Tryz.prog 63 #[.pointer (some ⟨X.l, 0, none⟩)] w (X.Gives w0 p 18 (p + 2)) := by
  have hl := h.c0
  have hlt := lt_of_byte (t := X.t) (p := p) (by rw [hc]; decide)
  have hlt1 := lt_of_byte (t := X.t) (p := p + 1) (by rw [h61]; decide)
  go_enter Tryz.func63, Tryz.ntmps63
  go_wp2_with (first | (go_at_call 80; ((with_reducible refine ((peek0 X w0 _ _ _ (by assumption))).mono ?_); (rintro e w' ⟨rfl, rfl⟩))) | (go_at_call 80; ((with_reducible refine ((peek1 X w0 _ _ _ (by assumption) (by omega))).mono ?_); (rintro e w' ⟨rfl, rfl⟩))) | (go_at_call 58; ((with_reducible refine ((move2 X w0 _ _ _ (by assumption) (by omega))).mono ?_); (rintro e w' ⟨rfl, hA⟩); (have hl := Lx.At.c0 hA))) | (go_at_call 82; ((with_reducible refine ((shift_any X w0 _ _ _ (by assumption) (by omega))).mono ?_); (rintro e w' ⟨rfl, hA⟩); (have hl := Lx.At.c0 hA))) | (go_at_call 91; go_in))
  all_goals (go_ret2; exact Lx.Gives.mk (by omega) (by assumption))
set_option maxRecDepth 100000 in
set_option maxHeartbeats 1000000 in
theorem nx_mt94 (hc : byte X.t p = 94) (h61 : byte X.t (p + 1) = 61) : Calls Tryz.prog 63 #[.pointer (some ⟨X.l, 0, none⟩)] w (X.Gives w0 p 16 (p + 2)) := by
  have hl := h.c0
  have hlt := lt_of_byte (t := X.t) (p := p) (by rw [hc]; decide)
  have hlt1 := lt_of_byte (t := X.t) (p := p + 1) (by rw [h61]; decide)
  go_enter Tryz.func63, Tryz.ntmps63
  go_wp2_with (first | (go_at_call 80; ((with_reducible refine ((peek0 X w0 _ _ _ (by assumption))).mono ?_); (rintro e w' ⟨rfl, rfl⟩))) | (go_at_call 80; ((with_reducible refine ((peek1 X w0 _ _ _ (by assumption) (by omega))).mono ?_); (rintro e w' ⟨rfl, rfl⟩))) | (go_at_call 58; ((with_reducible refine ((move2 X w0 _ _ _ (by assumption) (by omega))).mono ?_); (rintro e w' ⟨rfl, hA⟩); (have hl := Lx.At.c0 hA))) | (go_at_call 82; ((with_reducible refine ((shift_any X w0 _ _ _ (by assumption) (by omega))).mono ?_); (rintro e w' ⟨rfl, hA⟩); (have hl := Lx.At.c0 hA))) | (go_at_call 91; go_in))
  all_goals (go_ret2; exact Lx.Gives.mk (by omega) (by assumption))
set_option maxRecDepth 100000 in
set_option maxHeartbeats 1000000 in
theorem nx_mt126 (hc : byte X.t p = 126) (h61 : byte X.t (p + 1) = 61) : Calls Tryz.prog 63 #[.pointer (some ⟨X.l, 0, none⟩)] w (X.Gives w0 p 14 (p + 2)) := by
  have hl := h.c0
  have hlt := lt_of_byte (t := X.t) (p := p) (by rw [hc]; decide)
  have hlt1 := lt_of_byte (t := X.t) (p := p + 1) (by rw [h61]; decide)
  go_enter Tryz.func63, Tryz.ntmps63
  go_wp2_with (first | (go_at_call 80; ((with_reducible refine ((peek0 X w0 _ _ _ (by assumption))).mono ?_); (rintro e w' ⟨rfl, rfl⟩))) | (go_at_call 80; ((with_reducible refine ((peek1 X w0 _ _ _ (by assumption) (by omega))).mono ?_); (rintro e w' ⟨rfl, rfl⟩))) | (go_at_call 58; ((with_reducible refine ((move2 X w0 _ _ _ (by assumption) (by omega))).mono ?_); (rintro e w' ⟨rfl, hA⟩); (have hl := Lx.At.c0 hA))) | (go_at_call 82; ((with_reducible refine ((shift_any X w0 _ _ _ (by assumption) (by omega))).mono ?_); (rintro e w' ⟨rfl, hA⟩); (have hl := Lx.At.c0 hA))) | (go_at_call 91; go_in))
  all_goals (go_ret2; exact Lx.Gives.mk (by omega) (by assumption))
set_option maxRecDepth 100000 in
set_option maxHeartbeats 1000000 in
theorem nx_mt124 (hc : byte X.t p = 124) (h61 : byte X.t (p + 1) = 61) : Calls Tryz.prog 63 #[.pointer (some ⟨X.l, 0, none⟩)] w (X.Gives w0 p 15 (p + 2)) := by
  have hl := h.c0
  have hlt := lt_of_byte (t := X.t) (p := p) (by rw [hc]; decide)
  have hlt1 := lt_of_byte (t := X.t) (p := p + 1) (by rw [h61]; decide)
  go_enter Tryz.func63, Tryz.ntmps63
  go_wp2_with (first | (go_at_call 80; ((with_reducible refine ((peek0 X w0 _ _ _ (by assumption))).mono ?_); (rintro e w' ⟨rfl, rfl⟩))) | (go_at_call 80; ((with_reducible refine ((peek1 X w0 _ _ _ (by assumption) (by omega))).mono ?_); (rintro e w' ⟨rfl, rfl⟩))) | (go_at_call 58; ((with_reducible refine ((move2 X w0 _ _ _ (by assumption) (by omega))).mono ?_); (rintro e w' ⟨rfl, hA⟩); (have hl := Lx.At.c0 hA))) | (go_at_call 82; ((with_reducible refine ((shift_any X w0 _ _ _ (by assumption) (by omega))).mono ?_); (rintro e w' ⟨rfl, hA⟩); (have hl := Lx.At.c0 hA))) | (go_at_call 91; go_in))
  all_goals (go_ret2; exact Lx.Gives.mk (by omega) (by assumption))
set_option maxRecDepth 100000 in
set_option maxHeartbeats 1000000 in
theorem nx_mdel42 (hc : byte X.t p = 42) (h61 : (byte X.t (p + 1) == 61) = false) : Calls Tryz.prog 63 #[.pointer (some ⟨X.l, 0, none⟩)] w (X.Gives w0 p 9 (p + 1)) := by
  have hl := h.c0
  have hlt := lt_of_byte (t := X.t) (p := p) (by rw [hc]; decide)
  go_enter Tryz.func63, Tryz.ntmps63
  go_wp2_with (first | (go_at_call 80; ((with_reducible refine ((peek0 X w0 _ _ _ (by assumption))).mono ?_); (rintro e w' ⟨rfl, rfl⟩))) | (go_at_call 80; ((with_reducible refine ((peek1 X w0 _ _ _ (by assumption) (by omega))).mono ?_); (rintro e w' ⟨rfl, rfl⟩))) | (go_at_call 58; ((with_reducible refine ((move1 X w0 _ _ _ (by assumption) (by omega))).mono ?_); (rintro e w' ⟨rfl, hA⟩); (have hl := Lx.At.c0 hA))) | (go_at_call 82; ((with_reducible refine ((shift_any X w0 _ _ _ (by assumption) (by omega))).mono ?_); (rintro e w' ⟨rfl, hA⟩); (have hl := Lx.At.c0 hA))) | (go_at_call 91; go_in))
  all_goals (go_ret2; exact Lx.Gives.mk (by omega) (by assumption))
set_option maxRecDepth 100000 in
set_option maxHeartbeats 1000000 in
theorem nx_mdel126 (hc : byte X.t p = 126) (h61 : (byte X.t (p + 1) == 61) = false) : Calls Tryz.prog 63 #[.pointer (some ⟨X.l, 0, none⟩)] w (X.Gives w0 p 9 (p + 1)) := by
  have hl := h.c0
  have hlt := lt_of_byte (t := X.t) (p := p) (by rw [hc]; decide)
  go_enter Tryz.func63, Tryz.ntmps63
  go_wp2_with (first | (go_at_call 80; ((with_reducible refine ((peek0 X w0 _ _ _ (by assumption))).mono ?_); (rintro e w' ⟨rfl, rfl⟩))) | (go_at_call 80; ((with_reducible refine ((peek1 X w0 _ _ _ (by assumption) (by omega))).mono ?_); (rintro e w' ⟨rfl, rfl⟩))) | (go_at_call 58; ((with_reducible refine ((move1 X w0 _ _ _ (by assumption) (by omega))).mono ?_); (rintro e w' ⟨rfl, hA⟩); (have hl := Lx.At.c0 hA))) | (go_at_call 82; ((with_reducible refine ((shift_any X w0 _ _ _ (by assumption) (by omega))).mono ?_); (rintro e w' ⟨rfl, hA⟩); (have hl := Lx.At.c0 hA))) | (go_at_call 91; go_in))
  all_goals (go_ret2; exact Lx.Gives.mk (by omega) (by assumption))
end

end Go.Proofs.YtlglijnaeaonpaaGreatDoor.Css
/- The lexer's next token, kind by kind: names and numbers that begin with no sign; all kinds; the end. -/
namespace Go.Proofs.YtlglijnaeaonpaaGreatDoor.Css
open Go.RowKit

section
variable (X : Lx) (w0 w : World) (p : Nat) (h : X.At w0 w p p)
include h
set_option maxRecDepth 100000 in
set_option maxHeartbeats 1000000 in
theorem nx_u117 (hn : NoBs X.t) (tt : Int) (q : Nat) (hc : byte X.t p = 117) (hr : (byte X.t (p + 1) == 43) = false ∨ (isHx (byte X.t (p + 2)) = false ∧ (byte X.t (p + 2) == 63) = false)) (hi : IL X.t p p tt q) : Calls Tryz.prog 63 #[.pointer (some ⟨X.l, 0, none⟩)] w (X.Gives w0 p tt q) := by
  have hl := h.c0
  have hgt := hi.gt (Nat.le_refl _)
  have HU := Lib.hid (show byte X.t p = 117 ∨ byte X.t p = 85 from by omega)
  have HR := Lib.hid hr
  have HP : PosOk X.t p p := ( .inl ⟨beq_eq_false_iff_ne.2 (by omega), rfl⟩)
  have HI := Lib.hid hi
  have hne := hi.ne
  clear hi hr
  go_enter Tryz.func63, Tryz.ntmps63
  go_wp2_with (first | (go_at_call 80; ((with_reducible refine ((peek0 X w0 _ _ _ (by assumption))).mono ?_); (rintro e w' ⟨rfl, rfl⟩))) | (go_at_call 82; ((with_reducible refine ((shift_any X w0 _ _ _ (by assumption) (by omega))).mono ?_); (rintro e w' ⟨rfl, hA⟩); (have hl := Lx.At.c0 hA))) | (go_at_call 94; ((with_reducible refine (ur_no X w0 _ _ _ (by assumption) HU.out HR.out).mono ?_); (rintro e w' ⟨rfl, hA⟩); (have hl := Lx.At.c0 hA))) | (go_at_call 89; ((with_reducible refine (il_any X w0 _ _ _ (by assumption) hn _ _ _ rfl HP.out HI.out).mono ?_); (rintro e w' ⟨rfl, hA⟩); (have hl := Lx.At.c0 hA))))
  all_goals (go_ret2; exact Lx.Gives.mk (by omega) (by assumption))
set_option maxRecDepth 100000 in
set_option maxHeartbeats 1000000 in
theorem nx_u85 (hn : NoBs X.t) (tt : Int) (q : Nat) (hc : byte X.t p = 85) (hr : (byte X.t (p + 1) == 43) = false ∨ (isHx (byte X.t (p + 2)) = false ∧ (byte X.t (p + 2) == 63) = false)) (hi : IL X.t p p tt q) : Calls Tryz.prog 63 #[.pointer (some ⟨X.l, 0, none⟩)] w (X.Gives w0 p tt q) := by
  have hl := h.c0
  have hgt := hi.gt (Nat.le_refl _)
  have HU := Lib.hid (show byte X.t p = 117 ∨ byte X.t p = 85 from by omega)
  have HR := Lib.hid hr
  have HP : PosOk X.t p p := ( .inl ⟨beq_eq_false_iff_ne.2 (by omega), rfl⟩)
  have HI := Lib.hid hi
  have hne := hi.ne
  clear hi hr
  go_enter Tryz.func63, Tryz.ntmps63
  go_wp2_with (first | (go_at_call 80; ((with_reducible refine ((peek0 X w0 _ _ _ (by assumption))).mono ?_); (rintro e w' ⟨rfl, rfl⟩))) | (go_at_call 82; ((with_reducible refine ((shift_any X w0 _ _ _ (by assumption) (by omega))).mono ?_); (rintro e w' ⟨rfl, hA⟩); (have hl := Lx.At.c0 hA))) | (go_at_call 94; ((with_reducible refine (ur_no X w0 _ _ _ (by assumption) HU.out HR.out).mono ?_); (rintro e w' ⟨rfl, hA⟩); (have hl := Lx.At.c0 hA))) | (go_at_call 89; ((with_reducible refine (il_any X w0 _ _ _ (by assumption) hn _ _ _ rfl HP.out HI.out).mono ?_); (rintro e w' ⟨rfl, hA⟩); (have hl := Lx.At.c0 hA))))
  all_goals (go_ret2; exact Lx.Gives.mk (by omega) (by assumption))
set_option maxRecDepth 100000 in
set_option maxHeartbeats 1000000 in
theorem nx_st (hn : NoBs X.t) (tt : Int) (q : Nat) (hs : isSt (byte X.t p) = true) (hu : byte X.t p ≠ 117 ∧ byte X.t p ≠ 85) (hi : IL X.t p p tt q) : Calls Tryz.prog 63 #[.pointer (some ⟨X.l, 0, none⟩)] w (X.Gives w0 p tt q) := by
  have hl := h.c0
  obtain ⟨s1, s2, s3, s4, s5, s6, s7, s8, s9, s10, s11, s12, s13, s14, s15, s16, s17, s18, s19, s20, s21, s22, s23, s24, s25, s26, s27, s28, s29, s30, s31, s32⟩ := noSp_of (c := byte X.t p) (.inr (.inl ⟨hs, hu⟩))
  have hdg : isDg (byte X.t p) = false := by have := isSt_yes hs; simp [isDg]; omega
  have HP : PosOk X.t p p := ( .inl ⟨s20, rfl⟩)
  have HN := Lib.hid (show fracEnd X.t (signEnd X.t p) = none from by
    have e : signEnd X.t p = p := by rw [signEnd, s19, s20]; rfl
    rw [e, fracEnd, hdg, s18]; rfl)
  have hgt := hi.gt (Nat.le_refl _)
  have HI := Lib.hid hi
  have hne := hi.ne
  clear hi hs hu hdg
  go_enter Tryz.func63, Tryz.ntmps63
  go_wp2_with (first | (go_at_call 80; ((with_reducible refine ((peek0 X w0 _ _ _ (by assumption))).mono ?_); (rintro e w' ⟨rfl, rfl⟩))) | (go_at_call 82; ((with_reducible refine ((shift_any X w0 _ _ _ (by assumption) (by omega))).mono ?_); (rintro e w' ⟨rfl, hA⟩); (have hl := Lx.At.c0 hA))) | (go_at_call 86; ((with_reducible refine (numeric_no X w0 _ _ _ (by assumption) HN.out).mono ?_); (rintro e w' ⟨rfl, hA⟩); (have hl := Lx.At.c0 hA))) | (go_at_call 89; ((with_reducible refine (il_any X w0 _ _ _ (by assumption) hn _ _ _ rfl HP.out HI.out).mono ?_); (rintro e w' ⟨rfl, hA⟩); (have hl := Lx.At.c0 hA))))
  all_goals (go_ret2; exact Lx.Gives.mk (by omega) (by assumption))
set_option maxRecDepth 100000 in
set_option maxHeartbeats 1000000 in
theorem nx_dg (hn : NoBs X.t) (tt : Int) (q : Nat) (hs : isDg (byte X.t p) = true) (hi : NumT X.t p tt q) : Calls Tryz.prog 63 #[.pointer (some ⟨X.l, 0, none⟩)] w (X.Gives w0 p tt q) := by
  have hl := h.c0
  obtain ⟨s1, s2, s3, s4, s5, s6, s7, s8, s9, s10, s11, s12, s13, s14, s15, s16, s17, s18, s19, s20, s21, s22, s23, s24, s25, s26, s27, s28, s29, s30, s31, s32⟩ := noSp_of (c := byte X.t p) (.inl hs)
  have hgt := hi.gt
  have HN := Lib.hid hi
  have hne := hi.ne
  clear hi hs
  go_enter Tryz.func63, Tryz.ntmps63
  go_wp2_with (first | (go_at_call 80; ((with_reducible refine ((peek0 X w0 _ _ _ (by assumption))).mono ?_); (rintro e w' ⟨rfl, rfl⟩))) | (go_at_call 82; ((with_reducible refine ((shift_any X w0 _ _ _ (by assumption) (by omega))).mono ?_); (rintro e w' ⟨rfl, hA⟩); (have hl := Lx.At.c0 hA))) | (go_at_call 86; ((with_reducible refine (numT_any X w0 _ _ _ (by assumption) hn _ _ HN.out).mono ?_); (rintro e w' ⟨rfl, hA⟩); (have hl := Lx.At.c0 hA))))
  all_goals (go_ret2; exact Lx.Gives.mk (by omega) (by assumption))
set_option maxRecDepth 100000 in
set_option maxHeartbeats 1000000 in
theorem nx_del62 (hn : NoBs X.t) (hc : byte X.t p = 62) : Calls Tryz.prog 63 #[.pointer (some ⟨X.l, 0, none⟩)] w (X.Gives w0 p 9 (p + 1)) := by
  have hl := h.c0
  have hlt := lt_of_byte (t := X.t) (p := p) (by rw [hc]; decide)
  obtain ⟨s1, s2, s3, s4, s5, s6, s7, s8, s9, s10, s11, s12, s13, s14, s15, s16, s17, s18, s19, s20, s21, s22, s23, s24, s25, s26, s27, s28, s29, s30, s31, s32⟩ := noSp_of (c := byte X.t p) (.inr (.inr (.inr hc)))
  have hdg : isDg (byte X.t p) = false := by rw [hc]; decide
  have HP : PosOk X.t p p := ( .inl ⟨s20, rfl⟩)
  have HN := Lib.hid (show fracEnd X.t (signEnd X.t p) = none from by
    have e : signEnd X.t p = p := by rw [signEnd, s19, s20]; rfl
    rw [e, fracEnd, hdg, s18]; rfl)
  have HI := Lib.hid (show isSt (byte X.t p) = false from by rw [hc]; decide)
  clear s1 s2 s3 s4 s5 s6 s7 s8 s9 s10 s11 s12 s13 s14 s15 s16 s17 s18 s19 s20 s21 s22 s23 s24 s25 s26 s27 s28 s29 s30 s31 s32 hdg
  go_enter Tryz.func63, Tryz.ntmps63
  go_wp2_with (first | (go_at_call 80; ((with_reducible refine ((peek0 X w0 _ _ _ (by assumption))).mono ?_); (rintro e w' ⟨rfl, rfl⟩))) | (go_at_call 58; ((with_reducible refine ((move1 X w0 _ _ _ (by assumption) (by omega))).mono ?_); (rintro e w' ⟨rfl, hA⟩); (have hl := Lx.At.c0 hA))) | (go_at_call 82; ((with_reducible refine ((shift_any X w0 _ _ _ (by assumption) (by omega))).mono ?_); (rintro e w' ⟨rfl, hA⟩); (have hl := Lx.At.c0 hA))) | (go_at_call 86; ((with_reducible refine (numeric_no X w0 _ _ _ (by assumption) HN.out).mono ?_); (rintro e w' ⟨rfl, hA⟩); (have hl := Lx.At.c0 hA))) | (go_at_call 89; ((with_reducible refine (il_no X w0 _ _ _ (by assumption) hn _ HP.out HI.out).mono ?_); (rintro e w' ⟨rfl, hA⟩); (have hl := Lx.At.c0 hA))))
  all_goals (go_ret2; exact Lx.Gives.mk (by omega) (by assumption))
set_option maxRecDepth 100000 in
set_option maxHeartbeats 1000000 in
theorem nx_del61 (hn : NoBs X.t) (hc : byte X.t p = 61) : Calls Tryz.prog 63 #[.pointer (some ⟨X.l, 0, none⟩)] w (X.Gives w0 p 9 (p + 1)) := by
  have hl := h.c0
  have hlt := lt_of_byte (t := X.t) (p := p) (by rw [hc]; decide)
  obtain ⟨s1, s2, s3, s4, s5, s6, s7, s8, s9, s10, s11, s12, s13, s14, s15, s16, s17, s18, s19, s20, s21, s22, s23, s24, s25, s26, s27, s28, s29, s30, s31, s32⟩ := noSp_of (c := byte X.t p) (.inr (.inr (.inl hc)))
  have hdg : isDg (byte X.t p) = false := by rw [hc]; decide
  have HP : PosOk X.t p p := ( .inl ⟨s20, rfl⟩)
  have HN := Lib.hid (show fracEnd X.t (signEnd X.t p) = none from by
    have e : signEnd X.t p = p := by rw [signEnd, s19, s20]; rfl
    rw [e, fracEnd, hdg, s18]; rfl)
  have HI := Lib.hid (show isSt (byte X.t p) = false from by rw [hc]; decide)
  clear s1 s2 s3 s4 s5 s6 s7 s8 s9 s10 s11 s12 s13 s14 s15 s16 s17 s18 s19 s20 s21 s22 s23 s24 s25 s26 s27 s28 s29 s30 s31 s32 hdg
  go_enter Tryz.func63, Tryz.ntmps63
  go_wp2_with (first | (go_at_call 80; ((with_reducible refine ((peek0 X w0 _ _ _ (by assumption))).mono ?_); (rintro e w' ⟨rfl, rfl⟩))) | (go_at_call 58; ((with_reducible refine ((move1 X w0 _ _ _ (by assumption) (by omega))).mono ?_); (rintro e w' ⟨rfl, hA⟩); (have hl := Lx.At.c0 hA))) | (go_at_call 82; ((with_reducible refine ((shift_any X w0 _ _ _ (by assumption) (by omega))).mono ?_); (rintro e w' ⟨rfl, hA⟩); (have hl := Lx.At.c0 hA))) | (go_at_call 86; ((with_reducible refine (numeric_no X w0 _ _ _ (by assumption) HN.out).mono ?_); (rintro e w' ⟨rfl, hA⟩); (have hl := Lx.At.c0 hA))) | (go_at_call 89; ((with_reducible refine (il_no X w0 _ _ _ (by assumption) hn _ HP.out HI.out).mono ?_); (rintro e w' ⟨rfl, hA⟩); (have hl := Lx.At.c0 hA))))
  all_goals (go_ret2; exact Lx.Gives.mk (by omega) (by assumption))

set_option maxRecDepth 100000 in
set_option maxHeartbeats 1000000 in
/-- At the end the lexer tells it. -/
theorem nx_end (hp : p = X.t.length) : Calls Tryz.prog 63 #[.pointer (some ⟨X.l, 0, none⟩)] w fun e w' => e = .returned (.tuple #[.int .u32 0, .slice none 0 0]) ∧ X.At w0 w' p p := by
  have hl := h.c0
  have hc : byte X.t p = 0 := byte_end _ _ (by omega)
  have HE := Lib.hid hp
  clear hp
  go_enter Tryz.func63, Tryz.ntmps63
  go_wp2_with (first | (go_at_call 80; ((with_reducible refine ((peek0 X w0 _ _ _ (by assumption))).mono ?_); (rintro e w' ⟨rfl, rfl⟩))) | (go_at_call 65; ((with_reducible refine (err_yes X w0 _ _ _ (by assumption) HE.out).mono ?_); (rintro e w' ⟨rfl, hA⟩); (have hl := Lx.At.c0 hA))))
  go_ret2
  exact ⟨rfl, by assumption⟩

/-- Whatever token begins at p: the lexer gives it. -/
theorem next_any (hn : NoBs X.t) (tt : Int) (q : Nat) (hk : Tk X.t p tt q) : Calls Tryz.prog 63 #[.pointer (some ⟨X.l, 0, none⟩)] w (X.Gives w0 p tt q) := by
  cases hk with
  | ws a => exact nx_ws X w0 w p h a
  | one c tt a b =>
    simp only [List.mem_cons, Prod.mk.injEq, List.not_mem_nil, or_false] at b
    rcases b with ⟨rfl, rfl⟩ | ⟨rfl, rfl⟩ | ⟨rfl, rfl⟩
    · exact nx_58 X w0 w p h a
    · exact nx_59 X w0 w p h a
    · exact nx_44 X w0 w p h a
  | br c tt a b =>
    simp only [List.mem_cons, Prod.mk.injEq, List.not_mem_nil, or_false] at b
    rcases b with ⟨rfl, rfl⟩ | ⟨rfl, rfl⟩ | ⟨rfl, rfl⟩ | ⟨rfl, rfl⟩ | ⟨rfl, rfl⟩ | ⟨rfl, rfl⟩
    · exact nx_40 X w0 w p h a
    · exact nx_41 X w0 w p h a
    · exact nx_91 X w0 w p h a
    · exact nx_93 X w0 w p h a
    · exact nx_123 X w0 w p h a
    · exact nx_125 X w0 w p h a
  | hash a b => exact nx_hash X w0 w p h hn a b
  | str q a b c d e =>
    rcases a with a | a
    · exact nx_str34 X w0 w p h hn q a b c d e
    · exact nx_str39 X w0 w p h hn q a b c d e
  | numD tt q a b => exact nx_dg X w0 w p h hn tt q a b
  | numS tt q a b =>
    rcases a with a | a
    · exact nx_num46 X w0 w p h hn tt q a b
    · exact nx_num43 X w0 w p h hn tt q a b
  | delS a b =>
    rcases a with a | a
    · exact nx_del46 X w0 w p h a b
    · exact nx_del43 X w0 w p h a b
  | hyI tt q a b c => exact nx_hyI X w0 w p h hn tt q a b c
  | hyN tt q a b c d => exact nx_hyN X w0 w p h hn tt q a b c d
  | at_ a b => exact nx_at X w0 w p h hn a b
  | mt c tt a b d =>
    simp only [List.mem_cons, Prod.mk.injEq, List.not_mem_nil, or_false] at d
    rcases d with ⟨rfl, rfl⟩ | ⟨rfl, rfl⟩ | ⟨rfl, rfl⟩ | ⟨rfl, rfl⟩ | ⟨rfl, rfl⟩
    · exact nx_mt36 X w0 w p h a b
    · exact nx_mt42 X w0 w p h a b
    · exact nx_mt94 X w0 w p h a b
    · exact nx_mt126 X w0 w p h a b
    · exact nx_mt124 X w0 w p h a b
  | mdel a b =>
    rcases a with a | a
    · exact nx_mdel42 X w0 w p h a b
    · exact nx_mdel126 X w0 w p h a b
  | uI tt q a b c =>
    rcases a with a | a
    · exact nx_u117 X w0 w p h hn tt q a b c
    · exact nx_u85 X w0 w p h hn tt q a b c
  | stI tt q a b c => exact nx_st X w0 w p h hn tt q a b c
  | del a =>
    rcases a with a | a
    · exact nx_del62 X w0 w p h hn a
    · exact nx_del61 X w0 w p h hn a
end

end Go.Proofs.YtlglijnaeaonpaaGreatDoor.Css
