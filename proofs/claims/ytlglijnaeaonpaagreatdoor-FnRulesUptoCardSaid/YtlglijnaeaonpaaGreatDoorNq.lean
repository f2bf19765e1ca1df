/- The reference's tokens of a text: what they are in memory. -/
import Derived.Test.YtlglijnaeaonpaaGreatDoorNn
import Derived.Test.YtlglijnaeaonpaaGreatDoorMo
import Derived.Test.YtlglijnaeaonpaaGreatDoorMp
set_option linter.all false
/- The reference's tokens of a text: what they are in memory. -/
namespace Go.Proofs.YtlglijnaeaonpaaGreatDoor.Css
open Go.RowKit

theorem info55 : (Tryz.prog.info? 55).map (fun i => (i.zero, i.size, i.bytes)) = some (some (.agg #[.string ⟨#[]⟩, .slice none 0 0, .slice none 0 0, .slice none 0 0, .slice none 0 0, .string ⟨#[]⟩]), 6, 128) := by kernel_rfl

/-- A slice's value that holds these bytes, and its capacity is fair. -/
def Sl (w : World) (v : Value) (l : List UInt8) : Prop := ∃ a cap, v = .slice a l.length cap ∧ l.length ≤ cap ∧ cap ≤ 140737488351232 ∧ (0 < l.length → ∃ b off, a = some ⟨b, off, none⟩ ∧ Lies w b off l)
theorem Sl.slb {w : World} {v : Value} {l : List UInt8} (h : Sl w v l) : Slb w v l := by
  obtain ⟨a, cap, h1, _, _, h4⟩ := h
  exact ⟨a, cap, h1, h4⟩
theorem Sl.len {w : World} {v : Value} {l : List UInt8} (h : Sl w v l) : l.length ≤ 140737488351232 := by
  obtain ⟨a, cap, h1, h2, h3, h4⟩ := h
  omega
theorem Lies.lt {w : World} {b off : Nat} {l : List UInt8} (h : Lies w b off l) (h0 : 0 < l.length) : b < w.heap.size := World.block_lt_of_cell? w _ (h 0 h0)
theorem Lies.byt {w : World} {b off : Nat} {l : List UInt8} (h : Lies w b off l) : Byt w b off l.length := fun i hi => ⟨_, byte_lo _ _, byte_hi _ _, h i hi⟩
theorem Sl.below {w w' : World} {v : Value} {l : List UInt8} (h : Sl w v l) (hb : Below w.heap.size w w') : Sl w' v l := by
  obtain ⟨a, cap, h1, h2, h3, h4⟩ := h
  refine ⟨a, cap, h1, h2, h3, fun h0 => ?_⟩
  obtain ⟨b, off, rfl, hL⟩ := h4 h0
  exact ⟨b, off, rfl, hL.below (hL.lt h0) hb⟩
theorem Utab.below {w w' : World} (h : Utab w) {B : Nat} (hB : 3 < B) (hb : Below B w w') : Utab w' where
  first := fun i hi => by
    obtain ⟨x, h1, h2⟩ := h.first i hi
    exact ⟨x, h1, (hb.cell (p := ⟨2, i, none⟩) (by show 2 < B; omega)).trans h2⟩
  acc := fun i hi => by
    obtain ⟨x, h1, h2, h3⟩ := h.acc i hi
    exact ⟨x, h1, h2, (hb.cell (p := ⟨3, i, none⟩) (by show 3 < B; omega)).trans h3⟩
  lt := Nat.lt_of_lt_of_le h.lt hb.size

/-- A token's piece: its kind's name, its bytes. -/
def tcell (b off cap : Nat) (k : Int × Nat × Nat) : List Value :=
  [.string (knm k.1), .slice (some ⟨b, off + k.2.1, none⟩) (k.2.2 - k.2.1) (cap - k.2.1), .slice none 0 0, .slice none 0 0, .slice none 0 0, .string ⟨#[]⟩]
/-- Tokens one behind the other. -/
inductive Chain (n : Nat) : Nat → List (Int × Nat × Nat) → Nat → Prop where
  | nil (p : Nat) : Chain n p [] p
  | cons (p q : Nat) (tt : Int) (l : List (Int × Nat × Nat)) (e : Nat) : p < q → q ≤ n → Chain n q l e → Chain n p ((tt, p, q) :: l) e
theorem Chain.snoc {n p q e : Nat} {l : List (Int × Nat × Nat)} (h : Chain n p l e) (tt : Int) (h1 : e < q) (h2 : q ≤ n) : Chain n p (l ++ [(tt, e, q)]) q := by
  induction h with
  | nil p => exact .cons p q tt [] q h1 h2 (.nil q)
  | cons p q' tt' l e a b c ih => exact .cons p q' tt' _ _ a b (ih h1)
theorem Chain.len {n p e : Nat} {l : List (Int × Nat × Nat)} (h : Chain n p l e) : p + l.length ≤ e := by
  induction h with
  | nil p => simp
  | cons p q tt l e a b c ih => simp only [List.length_cons]; omega

/-- A token that is told by its text alone. -/
def Sure (l : List UInt8) (k : Int × Nat × Nat) : Prop := ((k.1 ≠ 3 ∧ k.1 ≠ 20) ∧ Tk l k.2.1 k.1 k.2.2) ∨ (k.1 = 9 ∧ k.2.2 = k.2.1 + 1 ∧ Del9 l k.2.1)
/-- Tokens that are told by the text alone, of all of a text. -/
def Good0 (l : List UInt8) (ts : List (Int × Nat × Nat)) : Prop := Chain l.length 0 ts l.length ∧ ∀ k ∈ ts, Sure l k
/-- The tokens so far are the first of some. -/
def PreT (l : List UInt8) (ts : List (Int × Nat × Nat)) (q : Nat) (ts0 : List (Int × Nat × Nat)) : Prop := ∃ rest, ts0 = ts ++ rest ∧ Chain l.length q rest l.length ∧ ∀ k ∈ rest, Sure l k
theorem PreT.start {l : List UInt8} {ts0 : List (Int × Nat × Nat)} (h : Good0 l ts0) : PreT l [] 0 ts0 := ⟨ts0, rfl, h.1, h.2⟩
theorem PreT.done {l : List UInt8} {ts ts0 : List (Int × Nat × Nat)} {q : Nat} (h : PreT l ts q ts0) (hq : l.length ≤ q) : ts = ts0 := by
  obtain ⟨rest, rfl, hc, _⟩ := h
  cases hc with
  | nil _ => simp
  | cons p q tt l e h1 h2 h3 => omega
theorem PreT.step {R : Rx} {ts ts0 : List (Int × Nat × Nat)} {q q2 : Nat} {tt : Int} {o2 : Bool} (h : PreT R.t ts q ts0) (hq : q < R.t.length) (hn : NoBs R.t) (hz : NoZ R.t) (hD : TokD R q false tt q2 o2) : PreT R.t (ts ++ [(tt, q, q2)]) q2 ts0 ∧ o2 = false := by
  obtain ⟨rest, rfl, hc, hk⟩ := h
  cases hc with
  | nil _ => omega
  | cons p q0 tt0 l e h1 h2 h3 =>
    obtain ⟨e1, e2, ho⟩ : tt = tt0 ∧ q2 = q0 ∧ o2 = false := by
      rcases hk _ (List.mem_cons_self ..) with h4 | ⟨h4, h5, h6⟩
      · exact Tk.det hn hz h4.2 h4.1 hD
      · obtain ⟨a, b, c⟩ := h6.det hn hD
        exact ⟨a.trans h4.symm, b.trans h5.symm, c⟩
    subst e1; subst e2
    exact ⟨⟨l, by simp, h3, fun k hk' => hk k (List.mem_cons_of_mem _ hk')⟩, ho⟩
theorem NoBs.of_has {l : List UInt8} (h : hasB l 92 = false) : NoBs l := by
  intro i
  rcases Nat.lt_or_ge i l.length with hi | hi
  · exact hasB_no h i hi
  · rw [byte_end _ _ hi]; decide
theorem NoBs.has {l : List UInt8} (h : NoBs l) : hasB l 92 = false := hasB_false fun i _ => h i

/-- What the reference's tokens are: the pieces in memory, and what is known of them. -/
structure TokOut (w' : World) (B b off cap : Nat) (l : List UInt8) (out : Value) (ok : Bool) (ts : List (Int × Nat × Nat)) : Prop where
  own : Own w' B 55 6 out ts.length (ts.flatMap (tcell b off cap))
  chain : ∃ e, Chain l.length 0 ts e ∧ (ok = true → e = l.length)
  kinds : ∀ k ∈ ts, 1 ≤ k.1 ∧ k.1 ≤ 32
  nz : ok = true → NoZ l
  tk : ok = true → NoBs l → ∀ k ∈ ts, Allow l k.2.1 k.1 → Tk l k.2.1 k.1 k.2.2
  dl : ok = true → NoBs l → ∀ k ∈ ts, k.1 = 9 → k.2.2 = k.2.1 + 1 ∧ Del9 l k.2.1
  det : NoBs l → NoZ l → ∀ ts0, Good0 l ts0 → ts = ts0 ∧ ok = true
def TokPost (w : World) (v : Value) (l : List UInt8) (e : Ending) (w' : World) : Prop :=
  ∃ (b off cap : Nat) (ts : List (Int × Nat × Nat)) (out : Value) (ok : Bool), e = .returned (.tuple #[out, .bool ok]) ∧ Below w.heap.size w w' ∧ TokOut w' w.heap.size b off cap l out ok ts ∧
    (0 < l.length → v = .slice (some ⟨b, off, none⟩) l.length cap)
theorem TokOut.none {w' : World} {B b off cap : Nat} {l : List UInt8} (hx : NoBs l → NoZ l → False) : TokOut w' B b off cap l (.slice none 0 0) false [] :=
  ⟨Own.nil _ _ _ _, ⟨0, .nil 0, fun h => (by cases h)⟩, fun k hk => (by cases hk), fun h => (by cases h), fun h => (by cases h), fun h => (by cases h), fun a b => (hx a b).elim⟩

theorem rover_nil (w : World) (g cap : Nat) (a : Option Addr) (h0 : w.cell? ⟨g, 0, none⟩ = some (.slice a 0 cap)) (h1 : w.cell? ⟨g, 1, none⟩ = some (.int .i64 0)) :
    Calls Tryz.prog 67 #[.pointer (some ⟨g, 0, none⟩)] w fun e w' => e = .returned (.bool true) ∧ ∃ n, w' = w.drewN n := by
  go_enter Tryz.func67, Tryz.ntmps67
  go_wp2
  go_quiet (fail)
  go_wp2
  go_ret
  exact ⟨rfl, _, rfl⟩

theorem Rx.At.here {R : Rx} {w0 w : World} {p : Nat} {o : Bool} (h : R.At w0 w p o) : R.At w w p o := { h with hg := h.hg', hb := h.hb', keep := Keep.refl _ _ }
theorem Rx.At.below_of {R : Rx} {w0 w : World} {p : Nat} {o : Bool} (h : R.At w0 w p o) {B : Nat} (hg : B ≤ R.g) (hB : B ≤ w0.heap.size) : Below B w0 w :=
  ⟨h.keep.os, h.keep.tape, h.keep.output, h.keep.size, fun k hk => h.keep.block k (by omega) (by omega)⟩
theorem Rx.At.grown {R : Rx} {w0 w w' : World} {p : Nat} {o : Bool} {row : Option Nat} (h : R.At w0 w p o) (hg : w.grownBy w' row) (h1 : row ≠ some R.g) (h2 : row ≠ some R.b) : R.At w' w' p o :=
  { h with
    rd := by rw [hg.block _ h.hg' (fun e => h1 e.symm)]; exact h.rd
    txt := fun i hi => by
      rw [World.cell?_of_block (w := w) (hg.block R.b h.hb' (fun e => h2 e.symm))]; exact h.txt i hi
    hg := Nat.lt_of_lt_of_le h.hg' hg.size
    hb := Nat.lt_of_lt_of_le h.hb' hg.size
    keep := Keep.refl _ _ }

end Go.Proofs.YtlglijnaeaonpaaGreatDoor.Css
/- Whether a text is broken: the look ends. -/
namespace Go.Proofs.YtlglijnaeaonpaaGreatDoor.Css
open Go.RowKit

theorem broken_any (w : World) (v : Value) (l : List UInt8) (h : Sl w v l) (hU : Utab w) :
    Calls Tryz.prog 66 #[v] w fun e w' => ∃ r, e = .returned (.bool r) ∧ (r = true → hasB l 92 = true) ∧ Below w.heap.size w w' := by
  have hhas := has_any w v l 92 h.slb h.len
  cases hb : hasB l 92 with
  | false =>
    rw [hb] at hhas
    go_enter Tryz.func66, Tryz.ntmps66
    go_wp2_with (go_at_call 53; ((with_reducible refine hhas.mono ?_); rintro e w' ⟨rfl, rfl⟩))
    go_ret
    exact ⟨false, rfl, fun h => (by cases h), Below.refl _ _⟩
  | true =>
    have HBB := Lib.hid hb
    rw [hb] at hhas
    have h0 : 0 < l.length := by
      rcases Nat.eq_zero_or_pos l.length with h0 | h0
      · rw [List.eq_nil_of_length_eq_zero h0] at hb; cases hb
      · exact h0
    obtain ⟨a, cap, rfl, h2, h3, h4⟩ := h
    obtain ⟨b, off, rfl, hL⟩ := h4 h0
    have hv := valid_any w b off l.length cap hL.byt hU (hL.lt h0) h2 h3
    clear h4 hL hU hb
    go_enter Tryz.func66, Tryz.ntmps66
    go_wp2_with (first | (go_at_call 53; ((with_reducible refine hhas.mono ?_); rintro e w' ⟨rfl, rfl⟩)) | (go_at_call 103; ((with_reducible refine hv.mono ?_); rintro e w' ⟨r, rfl, hbel⟩)))
    go_ret
    exact ⟨_, rfl, fun _ => by first | exact HBB.out | trivial, hbel⟩

end Go.Proofs.YtlglijnaeaonpaaGreatDoor.Css
/- The reference's tokens of a text. -/
namespace Go.Proofs.YtlglijnaeaonpaaGreatDoor.Css
open Go.RowKit

set_option maxRecDepth 100000 in
set_option maxHeartbeats 4000000 in
theorem tokens_nil (w : World) (v : Value) (h : Sl w v []) (hU : Utab w) : Calls Tryz.prog 49 #[v] w (TokPost w v []) := by
  obtain ⟨a, cap, rfl, _, _, _⟩ := id h
  have hU2 := hU
  have hh := fun (w' : World) (hb : Below w.heap.size w w') => has_any w' _ [] 0 (h.below hb).slb (by simp)
  have hbk := fun (w' : World) (hb : Below w.heap.size w w') => broken_any w' _ [] (h.below hb) (hU2.below hU2.lt hb)
  have hz : hasB [] 0 = false := rfl
  rw [hz] at hh
  clear hz hU hU2 h
  simp only [List.length_nil] at hh hbk ⊢
  go_enter Tryz.func49, Tryz.ntmps49
  go_upto_region 2 with fail
  obtain ⟨w1, hw1⟩ : ∃ w1, w1 = (w.alloc (.cells #[.slice a 0 cap, .int .i64 0, .bool false] 115)).alloc (.cells #[] 55) := ⟨_, rfl⟩
  have hb1 : Below w.heap.size w w1 := by rw [hw1]; exact ((Below.refl _ _).alloc (Nat.le_refl _) _).alloc (by simp) _
  have hz1 : w1.heap.size = w.heap.size + 2 := by rw [hw1]; simp
  have hr1 : w1.heap[w.heap.size]? = some (.cells #[.slice a 0 cap, .int .i64 0, .bool false] 115 (0, 0)) := by
    rw [hw1, Below.heap_alloc _ _ _ (by simp)]; exact alloc_new _ _
  have ho1 : w1.heap[w.heap.size + 1]? = some (.cells #[] 55 (0, 0)) := by
    rw [hw1]; have := alloc_new (w.alloc (.cells #[.slice a 0 cap, .int .i64 0, .bool false] 115)) (.cells #[] 55); simpa using this
  rw [← hw1]
  clear hw1
  have hh1 := hh w1 hb1
  have hbk1 := hbk w1 hb1
  have HX := Lib.hid (show _ ∧ _ ∧ _ from ⟨hz1, hr1, ho1⟩)
  clear hh hbk hz1 hr1 ho1
  go_cut [17] (fun s wx => ∃ c : Bool, s = .bool c ∧ (c = true → False) ∧ Below w1.heap.size w1 wx)
  case first =>
    go_wp2_with (first | (go_at_call 53; ((with_reducible refine hh1.mono ?_); rintro e w' ⟨rfl, rfl⟩)) | (go_at_call 66; ((with_reducible refine hbk1.mono ?_); rintro e w' ⟨r, rfl, hrz, hbel⟩)))
    go_meet
    exact ⟨_, rfl, fun h => absurd (hrz h) (by decide), hbel⟩
  case rest =>
  obtain ⟨c, rfl, hcF, hb2⟩ := hcut
  have hb3 := hb1.trans (hb2.mono hb1.size)
  obtain ⟨hz1, hr1, ho1⟩ := HX.out
  have hr2 : wc.heap[w.heap.size]? = some (.cells #[.slice a 0 cap, .int .i64 0, .bool false] 115 (0, 0)) := by rw [hb2.block _ (by omega)]; exact hr1
  have ho2 : wc.heap[w.heap.size + 1]? = some (.cells #[] 55 (0, 0)) := by rw [hb2.block _ (by omega)]; exact ho1
  have HO := Lib.hid ho2
  have c0 : wc.cell? ⟨w.heap.size, 0, none⟩ = some (.slice a 0 cap) := by rw [cell_at hr2]; rfl
  have c1 : wc.cell? ⟨w.heap.size, 1, none⟩ = some (.int .i64 0) := by rw [cell_at hr2]; rfl
  have c2 : wc.cell? ⟨w.heap.size, 2, none⟩ = some (.bool false) := by rw [cell_at hr2]; rfl
  clear hz1 hr1 ho1 hr2 ho2 hh1 hbk1
  cases c with
  | true => exact (hcF rfl).elim
  | false =>
    clear hcF
    have hro := rover_nil wc w.heap.size cap a c0 c1
    go_wp2
    refine wp_loop_once ?_
    go_wp2_with (go_at_call 67; ((with_reducible refine hro.mono ?_); rintro e w' ⟨rfl, n, rfl⟩))
    go_quiet (fail)
    go_wp2
    go_ret2
    refine ⟨0, 0, 0, [], _, true, rfl, ⟨hb3.os, hb3.tape, hb3.output, hb3.size, hb3.block⟩, ⟨⟨rfl, .inr ⟨_, 0, 0, #[], rfl, by omega, HO.out, by simp, fun j u hj => by simp at hj, Nat.le_refl _, by unfold maxLen; omega⟩⟩, ⟨0, .nil 0, fun _ => rfl⟩, fun k hk => (by cases hk), fun _ i hi => absurd hi (by simp), fun _ _ k hk => (by cases hk), fun _ _ k hk => (by cases hk), fun _ _ ts0 hg => ⟨(PreT.start hg).done (Nat.zero_le _), rfl⟩⟩, fun h => absurd h (by simp)⟩

/-- While the tokens are read. -/
def TokRel (B : Nat) (w : World) (b off cap : Nat) (l : List UInt8) (v5 : Value) (wr : World) (q : Nat) (o : Bool) (ts : List (Int × Nat × Nat)) : Prop :=
  (Rx.mk B b off cap l).At wr wr q o ∧ Own wr B 55 6 v5 ts.length (ts.flatMap (tcell b off cap)) ∧ Below B w wr ∧ Chain l.length 0 ts q ∧ (∀ k ∈ ts, 1 ≤ k.1 ∧ k.1 ≤ 32) ∧
    (o = false → NoBs l → NoZ l → ∀ k ∈ ts, Allow l k.2.1 k.1 → Tk l k.2.1 k.1 k.2.2) ∧ (o = false → NoBs l → NoZ l → ∀ k ∈ ts, k.1 = 9 → k.2.2 = k.2.1 + 1 ∧ Del9 l k.2.1) ∧ (NoBs l → NoZ l → ∀ ts0, Good0 l ts0 → PreT l ts q ts0 ∧ o = false)

/-- The reader has gone on. -/
theorem TokRel.go {B : Nat} {w : World} {b off cap : Nat} {l : List UInt8} {v5 : Value} {wr w' : World} {q q' : Nat} {o o' : Bool} {ts : List (Int × Nat × Nat)} (hA : (Rx.mk B b off cap l).At wr wr q o)
    (hown : Own wr B 55 6 v5 ts.length (ts.flatMap (tcell b off cap))) (hbel : Below B w wr) (h : (Rx.mk B b off cap l).At wr w' q' o') :
    Own w' B 55 6 v5 ts.length (ts.flatMap (tcell b off cap)) ∧ Below B w w' ∧ ∀ k, v5.ownBlock = some k → k ≠ B := by
  have hne : ∀ k, v5.ownBlock = some k → k ≠ B := by
    rintro k hk rfl
    obtain ⟨_, _, cur, hc⟩ := hown.lt k hk
    exact absurd (ty_eq hA.rd hc) (by decide)
  have hB : B ≤ wr.heap.size := Nat.le_of_lt hA.hg
  exact ⟨hown.keep fun k hk => h.keep.block k (hown.lt k hk).2.1 (hne k hk), hbel.trans (h.below_of (Nat.le_refl _) hB), hne⟩

set_option maxRecDepth 100000 in
set_option maxHeartbeats 4000000 in
theorem tokens_pos (w : World) (v : Value) (l : List UInt8) (h : Sl w v l) (hU : Utab w) (h0 : 0 < l.length) (hlen : l.length ≤ 2147483648) : Calls Tryz.prog 49 #[v] w (TokPost w v l) := by
  obtain ⟨i0, hi, hz0, hz1, hz2⟩ := info_parts info55
  obtain ⟨a, cap, rfl, hlc, hcap, hx⟩ := id h
  obtain ⟨b, off, rfl, hL⟩ := hx h0
  have HS := Lib.hid h
  have HU := Lib.hid hU
  have HL := Lib.hid hL
  have hbw := hL.lt h0
  have hlt3 := hU.lt
  clear h hU hL hx
  go_enter Tryz.func49, Tryz.ntmps49
  go_upto_region 2 with fail
  obtain ⟨w1, hw1⟩ : ∃ w1, w1 = (w.alloc (.cells #[.slice (some ⟨b, off, none⟩) l.length cap, .int .i64 0, .bool false] 115)).alloc (.cells #[] 55) := ⟨_, rfl⟩
  have hb1 : Below w.heap.size w w1 := by rw [hw1]; exact ((Below.refl _ _).alloc (Nat.le_refl _) _).alloc (by simp) _
  have hz1 : w1.heap.size = w.heap.size + 2 := by rw [hw1]; simp
  have hr1 : w1.heap[w.heap.size]? = some (.cells #[.slice (some ⟨b, off, none⟩) l.length cap, .int .i64 0, .bool false] 115 (0, 0)) := by
    rw [hw1, Below.heap_alloc _ _ _ (by simp)]; exact alloc_new _ _
  have ho1 : w1.heap[w.heap.size + 1]? = some (.cells #[] 55 (0, 0)) := by
    rw [hw1]; have := alloc_new (w.alloc (.cells #[.slice (some ⟨b, off, none⟩) l.length cap, .int .i64 0, .bool false] 115)) (.cells #[] 55); simpa using this
  have hA1 : (Rx.mk w.heap.size b off cap l).At w1 w1 0 false :=
    ⟨hr1, HL.out.below hbw hb1, by show b ≠ w.heap.size; omega, by show w.heap.size < w1.heap.size; omega, by show b < w1.heap.size; omega, Nat.zero_le _, hlc, hcap, Keep.refl _ _⟩
  have HOW := Lib.hid (show Own w1 w.heap.size 55 6 (.slice (some ⟨w.heap.size + 1, 0, none⟩) 0 0) 0 [] from
    ⟨rfl, .inr ⟨_, 0, 0, #[], rfl, by omega, ho1, by simp, fun j u hj => by simp at hj, Nat.le_refl _, by unfold maxLen; omega⟩⟩)
  rw [← hw1]
  clear hw1 hr1 ho1
  have HSZ := Lib.hid hz1
  have hh1 := has_any w1 _ l 0 (HS.out.below hb1).slb (by omega)
  have hbk1 := broken_any w1 _ l (HS.out.below hb1) (HU.out.below hlt3 hb1)
  clear hz1
  go_cut [17] (fun s wx => ∃ c : Bool, s = .bool c ∧ ((c = false → hasB l 0 = false) ∧ (c = true → hasB l 0 = true ∨ hasB l 92 = true)) ∧ Below w1.heap.size w1 wx)
  case first =>
    cases hz : hasB l 0 with
    | true =>
      rw [hz] at hh1
      go_wp2_with (first | (go_at_call 53; ((with_reducible refine hh1.mono ?_); rintro e w' ⟨rfl, rfl⟩)))
      go_meet
      exact ⟨true, rfl, ⟨fun h => (by cases h), fun _ => .inl hz⟩, Below.refl _ _⟩
    | false =>
      rw [hz] at hh1
      go_wp2_with (first | (go_at_call 53; ((with_reducible refine hh1.mono ?_); rintro e w' ⟨rfl, rfl⟩)) | (go_at_call 66; ((with_reducible refine hbk1.mono ?_); rintro e w' ⟨r, rfl, hrz, hbel⟩)))
      go_meet
      exact ⟨_, rfl, ⟨fun _ => hz, fun h => .inr (hrz h)⟩, hbel⟩
  case rest =>
  clear hh1 hbk1
  obtain ⟨c, rfl, hcz, hb2⟩ := hcut
  have hb3 := hb1.trans (hb2.mono hb1.size)
  cases c with
  | true =>
    have HF := Lib.hid (show NoBs l → NoZ l → False from fun hn hz => by
      rcases hcz.2 rfl with h | h
      · rw [hasB_false hz] at h; cases h
      · rw [hn.has] at h; cases h)
    clear hcz
    go_wp2
    go_ret2
    exact ⟨b, off, cap, [], _, false, rfl, hb3, TokOut.none HF.out, fun _ => rfl⟩
  | false =>
  have HNZ := Lib.hid (show NoZ l from hasB_no (hcz.1 rfl))
  have hrel0 : TokRel w.heap.size w b off cap l (.slice (some ⟨w.heap.size + 1, 0, none⟩) 0 0) wc 0 false [] :=
    ⟨(hA1.below hb2).here, HOW.out.keep fun k hk => hb2.block k (by cases hk; show w.heap.size + 1 < _; rw [HSZ.out]; omega), hb3, .nil 0, fun k hk => (by cases hk), fun _ _ _ k hk => (by cases hk), fun _ _ _ k hk => (by cases hk), fun _ _ ts0 hg => ⟨PreT.start hg, rfl⟩⟩
  clear hcz hA1 hb1 hb2 hb3
  go_wp2
  go_loopg [5, 6, 7] l.length (fun k v5 _ _ wr => ∃ q o ts, k = l.length - q ∧ TokRel w.heap.size w b off cap l v5 wr q o ts)
  case atStart => exact ⟨0, false, [], by omega, hrel0⟩
  case round =>
    clear hrel0
    obtain ⟨q, o, ts, hk, hA, hown, hbel, hch, hkd, htk, hdl, hdet⟩ := hrel
    have HK := Lib.hid hk
    have HCH := Lib.hid (show _ ∧ _ ∧ _ ∧ _ ∧ _ from ⟨hch, hkd, htk, hdl, hdet⟩)
    have hql : q ≤ l.length := hA.pl
    have hqn : ts.length ≤ q := by have := hch.len; omega
    clear hk hch hkd htk hdl hdet
    have r2 := hA.c2
    by_cases hov : l.length ≤ q
    · have hro := rover_any _ _ _ _ _ hA
      have hov' : decide ((Rx.mk w.heap.size b off cap l).t.length ≤ q) = true := decide_eq_true hov
      rw [hov'] at hro
      clear hov'
      go_wp2_with (go_at_call 67; ((with_reducible refine hro.mono ?_); rintro e w' ⟨rfl, hA2⟩; have k2 := hA2.c2))
      obtain ⟨hown2, hbel2, _⟩ := TokRel.go hA hown hbel hA2
      have HF := Lib.hid (show _ ∧ _ from ⟨hown2, hbel2⟩)
      clear hown hbel hown2 hbel2 hA
      go_quiet (fail)
      go_wp2
      go_ret2
      obtain ⟨hch, hkd, htk, hdl, hdet⟩ := HCH.out
      refine ⟨b, off, cap, ts, _, !o, rfl, below_drewN HF.out.2 _, ⟨HF.out.1, ⟨q, hch, fun _ => by omega⟩, hkd, fun _ => HNZ.out, fun ho hn => htk (by simpa using ho) hn HNZ.out, fun ho hn => hdl (by simpa using ho) hn HNZ.out, fun hn hz ts0 hg => ⟨(hdet hn hz ts0 hg).1.done hov, by rw [(hdet hn hz ts0 hg).2]; rfl⟩⟩, fun _ => rfl⟩
    · have hro := rover_any _ _ _ _ _ hA
      have hov' : decide ((Rx.mk w.heap.size b off cap l).t.length ≤ q) = false := decide_eq_false hov
      rw [hov'] at hro
      clear hov'
      cases o with
      | true =>
        go_wp2_with (go_at_call 67; ((with_reducible refine hro.mono ?_); rintro e w' ⟨rfl, hA2⟩; have k2 := hA2.c2))
        obtain ⟨hown2, hbel2, _⟩ := TokRel.go hA hown hbel hA2
        have HF := Lib.hid (show _ ∧ _ from ⟨hown2, hbel2⟩)
        clear hown hbel hown2 hbel2 hA
        go_quiet (fail)
        go_wp2
        go_ret2
        obtain ⟨hch, hkd, htk, hdl, hdet⟩ := HCH.out
        exact ⟨b, off, cap, ts, _, false, rfl, below_drewN HF.out.2 _, ⟨HF.out.1, ⟨q, hch, fun h => (by cases h)⟩, hkd, fun h => (by cases h), fun h => (by cases h), fun h => (by cases h), fun hn hz ts0 hg => (by have := (hdet hn hz ts0 hg).2; first | cases this | simp at this)⟩, fun _ => rfl⟩
      | false =>
        have hlt : q < l.length := by omega
        have htok := fun (w' : World) (hA2 : (Rx.mk w.heap.size b off cap l).At wr w' q false) => token_any _ _ _ _ _ hA2 hlt
        have s1 : (0 : Int) ≤ (q : Int) := by omega
        have s5 : ¬ cap = q := by omega
        go_upto_region 7 with (first | (go_at_call 67; ((with_reducible refine hro.mono ?_); rintro e w' ⟨rfl, hA2⟩; have k1 := hA2.c1; have k2 := hA2.c2)) | (go_at_call 68; ((with_reducible refine (htok _ hA2).mono ?_); rintro e w3 ⟨tt, q2, o2, rfl, hA3, hq2, ho2, htt, hK⟩; have m1 := hA3.c1)))
        have hq2l : q2 ≤ l.length := hA3.pl
        have s2 : (q : Int) ≤ (q2 : Int) := by omega
        have s3 : (q2 : Int) ≤ (cap : Int) := by omega
        obtain ⟨hown3, hbel3, hne3⟩ := TokRel.go hA hown hbel hA3
        have HKK := Lib.hid (show _ ∧ _ from ⟨htt, hK⟩)
        have HX3 := Lib.hid (show _ ∧ _ from ⟨hbel3, hne3⟩)
        clear htt hK hbel3 hne3 hown hbel hA hA2 htok hro r2 k1 k2
        go_wp2_with (first | (at_builtin; refine wpList_append_Own _ rfl _ _ 26 rfl w.heap.size 55 i0 (.agg #[.string ⟨#[]⟩, .slice none 0 0, .slice none 0 0, .slice none 0 0, .slice none 0 0, .string ⟨#[]⟩]) 6 128 Tryz.underlying26 hi hz0 hz1 hz2 rfl (by decide) _ _ _ rfl (hown3.keep fun k hk => (Below.heap_alloc _ _ _ (hown3.lt k hk).2.1)) ⟨w3.heap.size, 0, none⟩ 1 1 (tcell b off cap (tt, q, q2)) rfl rfl ?c1 ?c2 ?c3 ?c4 ?c5 ?_))
        case c1 =>
          intro j u hj
          have hj6 : j < 6 := (List.getElem?_eq_some_iff.1 hj).1
          match j, hj6 with
          | 0, _ => simp [tcell] at hj; subst hj; simp [Addr.add]
          | 1, _ => simp [tcell] at hj; subst hj; simp [Addr.add]
          | 2, _ => simp [tcell] at hj; subst hj; simp [Addr.add]
          | 3, _ => simp [tcell] at hj; subst hj; simp [Addr.add]
          | 4, _ => simp [tcell] at hj; subst hj; simp [Addr.add]
          | 5, _ => simp [tcell] at hj; subst hj; simp [Addr.add]
        case c2 => intro u hu; simp [tcell] at hu; rcases hu with rfl | rfl | rfl | rfl <;> rfl
        case c3 => unfold maxLen; omega
        case c4 => omega
        case c5 => have := HX3.out.1.size; simp; omega
        intro v' w4 hown4 hgrow
        have hA3a := hA3.alloc (.cells (tcell b off cap (tt, q, q2)).toArray 55)
        have hA4 := hA3a.grown hgrow (fun e => HX3.out.2 _ e rfl) (fun e => by have := (hown3.lt _ e).1; have : w.heap.size ≤ b := this; omega)
        have hb4 : Below w.heap.size w w4 := by
          have h1 := (HX3.out.1.alloc HX3.out.1.size (.cells (tcell b off cap (tt, q, q2)).toArray 55))
          exact h1.grown hgrow (by have := HX3.out.1.size; simp; omega) (fun k hk => (hown3.lt k hk).1)
        have HE := Lib.hid (show TokRel w.heap.size w b off cap l v' w4 q2 o2 (ts ++ [(tt, q, q2)]) from by
          obtain ⟨hch, hkd, htk, hdl, hdet⟩ := HCH.out
          obtain ⟨htt, hK⟩ := HKK.out
          refine ⟨hA4, ?_, hb4, hch.snoc tt hq2 hq2l, fun k hk => ?_, fun ho hn hz k hk => ?_, fun ho hn hz k hk h9 => ?_, fun hn hz ts0 hg => ?_⟩
          · rw [List.flatMap_append, List.length_append]; simpa using hown4
          · rcases List.mem_append.1 hk with hk | hk
            · exact hkd k hk
            · obtain rfl := List.mem_singleton.1 hk; exact htt
          · rcases List.mem_append.1 hk with hk | hk
            · exact htk (by first | rfl | trivial) hn hz k hk
            · obtain rfl := List.mem_singleton.1 hk; exact hK.1 ho hn hz
          · rcases List.mem_append.1 hk with hk | hk
            · exact hdl (by first | rfl | trivial) hn hz k hk h9
            · obtain rfl := List.mem_singleton.1 hk
              have h9' : tt = 9 := h9
              have hD := hK.2
              rw [h9', ho] at hD
              obtain ⟨a1, a2⟩ := hD.nine hn hz
              exact ⟨a2, a1⟩
          · exact PreT.step (R := Rx.mk w.heap.size b off cap l) (hdet hn hz ts0 hg).1 hlt hn hz hK.2)
        clear hown4 hgrow hA3a hA4 hb4 hown3 hA3 m1
        go_wp2
        go_roundg (l.length - q2)
        case measure => have := HK.out; omega
        case rel => exact ⟨q2, o2, _, rfl, HE.out⟩

theorem tokens_any (w : World) (v : Value) (l : List UInt8) (h : Sl w v l) (hU : Utab w) (hlen : l.length ≤ 2147483648) : Calls Tryz.prog 49 #[v] w (TokPost w v l) := by
  rcases Nat.eq_zero_or_pos l.length with h0 | h0
  · obtain rfl := List.eq_nil_of_length_eq_zero h0
    exact tokens_nil w v h hU
  · exact tokens_pos w v l h hU h0 hlen
end Go.Proofs.YtlglijnaeaonpaaGreatDoor.Css
