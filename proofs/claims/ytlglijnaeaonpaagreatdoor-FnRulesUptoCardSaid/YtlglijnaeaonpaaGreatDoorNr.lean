/- Whether declarations hold nothing too long. -/
import Derived.Lib.AppendStr
import Derived.Test.YtlglijnaeaonpaaGreatDoorNz
set_option linter.all false
/- Whether declarations hold nothing too long. -/
namespace Go.Proofs.YtlglijnaeaonpaaGreatDoor.Css
open Go.RowKit

def FitPost (w : World) (P : Prop) (e : Ending) (w' : World) : Prop := ∃ r, e = .returned (.bool r) ∧ Below w.heap.size w w' ∧ (r = true → P)
def WsFit (ws : List (List UInt8)) : Prop := ws.length ≤ 2147483647 ∧ ∀ x ∈ ws, x.length ≤ 2147483647
def DsFit (ds : List (List UInt8 × List (List UInt8))) : Prop := ds.length ≤ 2147483647 ∧ ∀ d ∈ ds, d.1.length ≤ 2147483647 ∧ WsFit d.2

set_option maxRecDepth 100000 in
set_option maxHeartbeats 4000000 in
theorem fits3_any (w : World) (v : Value) (ws : List (List UInt8)) (h : WordsMem w v ws) : Calls Tryz.prog 50 #[v] w (FitPost w (WsFit ws)) := by
  obtain ⟨a, c, rfl, hc1, hc2, hpos⟩ := h
  by_cases hbig : 2147483647 < ws.length
  · have y0 : decide (2147483647 < ws.length) = true := decide_eq_true hbig
    have y1 : decide ((2147483647 : Int) < (ws.length : Int)) = true := decide_eq_true (by omega)
    clear hpos hbig
    go_enter Tryz.func50, Tryz.ntmps50
    go_wp2
    go_ret
    exact ⟨false, rfl, Below.refl _ _, fun h => by cases h⟩
  have y0 : decide (2147483647 < ws.length) = false := decide_eq_false hbig
  have y1 : decide ((2147483647 : Int) < (ws.length : Int)) = false := decide_eq_false (by omega)
  have HBIG := Lib.hid (show ws.length ≤ 2147483647 from by omega)
  rcases Nat.eq_zero_or_pos ws.length with h0 | h0
  · rw [h0] at y0 y1 ⊢
    have HR := Lib.hid (show WsFit ws from by rw [List.eq_nil_of_length_eq_zero h0]; exact ⟨by simp, fun _ h => (by cases h)⟩)
    clear hpos h0 hc1 hbig
    go_enter Tryz.func50, Tryz.ntmps50
    go_wp2
    refine wp_loop_once fun _ => ?_
    go_wp2
    go_ret
    exact ⟨true, rfl, Below.refl _ _, fun _ => HR.out⟩
  obtain ⟨g, o, rfl, hcell⟩ := hpos h0
  have HC := Lib.hid hcell
  clear hpos hcell
  go_enter Tryz.func50, Tryz.ntmps50
  go_wp2
  go_loopg [10] ws.length (fun k i wr => ∃ q, q ≤ ws.length ∧ k = ws.length - q ∧ i = .int .i64 q ∧ wr = w ∧ ∀ j (hj : j < ws.length), j < q → ws[j].length ≤ 2147483647)
  case atStart => exact ⟨0, Nat.zero_le _, rfl, rfl, rfl, fun _ _ h => by omega⟩
  case round =>
    clear y0 y1
    obtain ⟨q, hq, hk, rfl, rfl, hall⟩ := hrel
    have HA := Lib.hid hall
    have HK := Lib.hid hk
    clear hall hk
    by_cases hlt : q < ws.length
    · obtain ⟨x, hx⟩ : ∃ x, x = ws[q] := ⟨_, rfl⟩
      obtain ⟨u, hu1, hu2⟩ := HC.out q hlt
      rw [← hx] at hu2
      have HX := Lib.hid (show ∀ (P : List UInt8 → Prop), P x → P ws[q] from fun P h => hx ▸ h)
      have HLT := Lib.hid hlt
      clear hx
      obtain ⟨ua, uc, rfl, _, _, _⟩ := id hu2
      clear hu2
      by_cases hxb : 2147483647 < x.length
      · have x0 : decide (2147483647 < x.length) = true := decide_eq_true hxb
        have x1 : decide ((2147483647 : Int) < (x.length : Int)) = true := decide_eq_true (by omega)
        clear hxb
        go_wp2
        go_ret
        exact ⟨false, rfl, Below.refl _ _, fun h => by cases h⟩
      · have x0 : decide (2147483647 < x.length) = false := decide_eq_false hxb
        have x1 : decide ((2147483647 : Int) < (x.length : Int)) = false := decide_eq_false (by omega)
        have HXB := Lib.hid (show x.length ≤ 2147483647 from by omega)
        clear hxb
        go_wp2
        go_roundg (ws.length - (q + 1))
        case measure => have h1 := HK.out; have h2 := HLT.out; omega
        case rel =>
          refine ⟨q + 1, HLT.out, rfl, by go_num, rfl, fun j hj hjq => ?_⟩
          by_cases e : j = q
          · subst e
            exact HX.out (fun y => y.length ≤ 2147483647) HXB.out
          · exact HA.out j hj (by omega)
    · have hq' : q = ws.length := by omega
      have HALL := Lib.hid (show ∀ j (hj : j < ws.length), ws[j].length ≤ 2147483647 from fun j hj => HA.out j hj (by omega))
      subst hq'
      go_wp2
      go_ret
      refine ⟨true, rfl, Below.refl _ _, fun _ => ⟨HBIG.out, fun x hx => ?_⟩⟩
      obtain ⟨j, hj, rfl⟩ := List.mem_iff_getElem.1 hx; exact HALL.out j hj

set_option maxRecDepth 100000 in
set_option maxHeartbeats 4000000 in
theorem fits2_any (w : World) (u x : Value) (d : List UInt8 × List (List UInt8)) (hu : Sl w u d.1) (hx : WordsMem w x d.2) : Calls Tryz.prog 29 #[.agg #[u, x]] w (FitPost w (d.1.length ≤ 2147483647 ∧ WsFit d.2)) := by
  obtain ⟨ua, uc, rfl, _, _, _⟩ := hu
  obtain ⟨xa, xc, rfl, _, _, _⟩ := id hx
  have hf := fits3_any (w.alloc (.cells #[.slice ua d.1.length uc, .slice xa d.2.length xc] 68)) _ d.2 (hx.below ((Below.refl _ _).alloc (Nat.le_refl _) _))
  have hb0 := (Below.refl w.heap.size w).alloc (Nat.le_refl _) (.cells #[.slice ua d.1.length uc, .slice xa d.2.length xc] 68)
  by_cases hxb : 2147483647 < d.1.length
  · have x0 : decide (2147483647 < d.1.length) = true := decide_eq_true hxb
    have x1 : decide ((2147483647 : Int) < (d.1.length : Int)) = true := decide_eq_true (by omega)
    clear hxb hx hf
    go_enter Tryz.func29, Tryz.ntmps29
    go_wp2
    go_ret
    exact ⟨false, rfl, hb0, fun h => by cases h⟩
  · have x0 : decide (2147483647 < d.1.length) = false := decide_eq_false hxb
    have x1 : decide ((2147483647 : Int) < (d.1.length : Int)) = false := decide_eq_false (by omega)
    have HXB := Lib.hid (show d.1.length ≤ 2147483647 from by omega)
    clear hxb hx
    go_enter Tryz.func29, Tryz.ntmps29
    go_wp2_with (go_at_call 50; (with_reducible refine hf.mono ?_); rintro e w1 ⟨r, rfl, hb1, hr1⟩; have HR1 := Lib.hid hr1; have HB1 := Lib.hid (hb0.trans (hb1.mono hb0.size)); clear hr1 hb1)
    all_goals go_ret
    all_goals first
      | exact ⟨false, rfl, HB1.out, fun h => (by cases h)⟩
      | exact ⟨true, rfl, HB1.out, fun _ => ⟨HXB.out, HR1.out (by first | rfl | trivial | assumption | (simp_all; done) | (cases r <;> simp_all))⟩⟩

set_option maxRecDepth 100000 in
set_option maxHeartbeats 4000000 in
theorem fits1_any (w : World) (v : Value) (ds : List (List UInt8 × List (List UInt8))) (h : DeclsMem w v ds) : Calls Tryz.prog 10 #[v] w (FitPost w (DsFit ds)) := by
  obtain ⟨a, c, rfl, hc1, hc2, hpos⟩ := h
  by_cases hbig : 2147483647 < ds.length
  · have y0 : decide (2147483647 < ds.length) = true := decide_eq_true hbig
    have y1 : decide ((2147483647 : Int) < (ds.length : Int)) = true := decide_eq_true (by omega)
    clear hpos hbig
    go_enter Tryz.func10, Tryz.ntmps10
    go_wp2
    go_ret
    exact ⟨false, rfl, Below.refl _ _, fun h => by cases h⟩
  have y0 : decide (2147483647 < ds.length) = false := decide_eq_false hbig
  have y1 : decide ((2147483647 : Int) < (ds.length : Int)) = false := decide_eq_false (by omega)
  have HBIG := Lib.hid (show ds.length ≤ 2147483647 from by omega)
  rcases Nat.eq_zero_or_pos ds.length with h0 | h0
  · rw [h0] at y0 y1 ⊢
    have HR := Lib.hid (show DsFit ds from by rw [List.eq_nil_of_length_eq_zero h0]; exact ⟨by simp, fun _ h => (by cases h)⟩)
    clear hpos h0 hc1 hbig
    go_enter Tryz.func10, Tryz.ntmps10
    go_wp2
    refine wp_loop_once fun _ => ?_
    go_wp2
    go_ret
    exact ⟨true, rfl, Below.refl _ _, fun _ => HR.out⟩
  obtain ⟨g, o, rfl, hcell⟩ := hpos h0
  have HC := Lib.hid hcell
  clear hpos hcell
  go_enter Tryz.func10, Tryz.ntmps10
  go_wp2
  go_loopg [10] ds.length (fun k i wr => ∃ q, q ≤ ds.length ∧ k = ds.length - q ∧ i = .int .i64 q ∧ Below w.heap.size w wr ∧ ∀ j (hj : j < ds.length), j < q → ds[j].1.length ≤ 2147483647 ∧ WsFit ds[j].2)
  case atStart => exact ⟨0, Nat.zero_le _, rfl, rfl, Below.refl _ _, fun _ _ h => by omega⟩
  case round =>
    clear y0 y1
    obtain ⟨q, hq, hk, rfl, hbel, hall⟩ := hrel
    have HA := Lib.hid hall
    have HK := Lib.hid hk
    clear hall hk
    by_cases hlt : q < ds.length
    · obtain ⟨d, hx⟩ : ∃ d, d = ds[q] := ⟨_, rfl⟩
      obtain ⟨u, x, hu1, hx1, hu2, hx2⟩ := HC.out q hlt
      rw [← hx] at hu2 hx2
      have HX := Lib.hid (show ∀ (P : List UInt8 × List (List UInt8) → Prop), P d → P ds[q] from fun P h => hx ▸ h)
      have HLT := Lib.hid hlt
      clear hx
      have k0 : wr.cell? ⟨g, o + q * 2, none⟩ = some u := (hbel.cell (p := ⟨g, o + q * 2, none⟩) (World.block_lt_of_cell? w _ hu1)).trans hu1
      have k1 : wr.cell? ⟨g, o + q * 2 + 1, none⟩ = some x := (hbel.cell (p := ⟨g, o + q * 2 + 1, none⟩) (World.block_lt_of_cell? w _ hx1)).trans hx1
      have hu3 := hu2.below hbel
      have hx3 := hx2.below hbel
      obtain ⟨ua, uc, rfl, _, _, _⟩ := id hu3
      obtain ⟨xa, xc, rfl, _, _, _⟩ := id hx3
      have HM := Lib.hid (show _ ∧ _ from ⟨hu3, hx3⟩)
      clear hu1 hu2 hu3 hx1 hx2 hx3
      go_upto_region 5 with fail
      go_cut [4] (fun s wx => ∃ tg, s = .pointer (some ⟨tg, 0, none⟩) ∧ wx.cell? ⟨tg, 0, none⟩ = some (.slice ua d.1.length uc) ∧ wx.cell? ⟨tg, 1, none⟩ = some (.slice xa d.2.length xc) ∧ Below wr.heap.size wr wx)
      case first =>
        have hb := (Below.refl wr.heap.size wr).alloc (Nat.le_refl _)
        go_wp2_with fail
        go_meet
        exact ⟨_, rfl, by rw [World.cell?_alloc_new]; rfl, by rw [World.cell?_alloc_new]; rfl, hb _⟩
      case rest =>
      clear k0 k1
      obtain ⟨tg, rfl, t0, t1, hbx⟩ := hcut
      obtain ⟨hu, hx⟩ := HM.out
      have hf := fits2_any wc _ _ d (hu.below hbx) (hx.below hbx)
      have HB2 := Lib.hid (hbel.trans (hbx.mono hbel.size))
      clear hu hx hbx hbel
      go_wp2_with (go_at_call 29; (with_reducible refine hf.mono ?_); rintro e w1 ⟨r, rfl, hb1, hr1⟩; have HR1 := Lib.hid hr1; have HB1 := Lib.hid (HB2.out.trans (hb1.mono HB2.out.size)); clear hr1 hb1)
      all_goals first
        | (go_ret; exact ⟨false, rfl, HB1.out, fun h => (by cases h)⟩)
        | skip
      go_roundg (ds.length - (q + 1))
      case measure => have h1 := HK.out; have h2 := HLT.out; omega
      case rel =>
        refine ⟨q + 1, HLT.out, rfl, by go_num, HB1.out, fun j hj hjq => ?_⟩
        by_cases e : j = q
        · subst e
          exact HX.out (fun y => y.1.length ≤ 2147483647 ∧ WsFit y.2) (HR1.out (by first | rfl | trivial | assumption | (simp_all; done) | (cases r <;> simp_all)))
        · exact HA.out j hj (by omega)
    · have hq' : q = ds.length := by omega
      have HALL := Lib.hid (show ∀ j (hj : j < ds.length), ds[j].1.length ≤ 2147483647 ∧ WsFit ds[j].2 from fun j hj => HA.out j hj (by omega))
      subst hq'
      go_wp2
      go_ret
      refine ⟨true, rfl, hbel, fun _ => ⟨HBIG.out, fun x hx => ?_⟩⟩
      obtain ⟨j, hj, rfl⟩ := List.mem_iff_getElem.1 hx; exact HALL.out j hj
end Go.Proofs.YtlglijnaeaonpaaGreatDoor.Css
/- Texts that are put together: what is appended to what; blanks; words. -/
namespace Go.Proofs.YtlglijnaeaonpaaGreatDoor.Css
open Go.RowKit

/-- A text of one's own in the making. -/
structure Txt (B : Nat) (w0 w : World) (v : Value) (l : List UInt8) : Prop where
  own : w.ownsRow B 5 1 v l.length (cellsOf l)
  bel : Below B w0 w
  hB : B ≤ w0.heap.size
theorem Txt.hB' {B : Nat} {w0 w : World} {v : Value} {l : List UInt8} (h : Txt B w0 w v l) : B ≤ w.heap.size := Nat.le_trans h.hB h.bel.size
theorem Txt.shape {B : Nat} {w0 w : World} {v : Value} {l : List UInt8} (h : Txt B w0 w v l) : ∃ a n c, v = .slice a n c := by
  rcases h.own.2 with ⟨h1, h2⟩ | ⟨g, cap, cur, h1, _⟩
  · exact ⟨_, _, _, h1⟩
  · exact ⟨_, _, _, h1⟩
theorem Txt.alloc {B : Nat} {w0 w : World} {v : Value} {l : List UInt8} (h : Txt B w0 w v l) (o : Obj) : Txt B w0 (w.alloc o) v l := ⟨h.own.alloc o, h.bel.alloc h.hB' o, h.hB⟩
theorem Txt.below {B : Nat} {w0 w w' : World} {v : Value} {l : List UInt8} (h : Txt B w0 w v l) (hb : Below w.heap.size w w') : Txt B w0 w' v l :=
  ⟨h.own.kept (row := none) ⟨hb.os, hb.tape, hb.output, hb.size, fun k hk _ => hb.block k hk⟩ (by
    cases hv : v.ownBlock with
    | none => exact .inl rfl
    | some k => exact .inr (by simp)), h.bel.trans (hb.mono h.hB'), h.hB⟩
theorem Txt.start (w0 : World) : Txt w0.heap.size w0 (w0.alloc (.cells #[] 5)) (.slice (some ⟨w0.heap.size, 0, none⟩) 0 0) [] :=
  ⟨⟨rfl, .inr ⟨w0.heap.size, 0, #[], rfl, Nat.le_refl _, alloc_new _ _, Nat.le_refl _, by unfold maxLen; omega, rfl, rfl⟩⟩, (Below.refl _ _).alloc (Nat.le_refl _) _, Nat.le_refl _⟩
/-- What is no row of bytes stays. -/
def Oth (w w' : World) : Prop := ∀ (k : Nat) (cs : Array Value) (t : TypeId) (f : Nat × Nat), w.heap[k]? = some (Obj.cells cs t f) → t ≠ 5 → w'.heap[k]? = some (Obj.cells cs t f)
theorem Oth.refl (w : World) : Oth w w := fun _ _ _ _ h _ => h
theorem Oth.trans {a b c : World} (h : Oth a b) (k : Oth b c) : Oth a c := fun i cs t f hi ht => k i cs t f (h i cs t f hi ht) ht
theorem Oth.alloc (w : World) (o : Obj) : Oth w (w.alloc o) := fun k cs t f hk _ => by rw [Below.heap_alloc _ _ _ (Array.getElem?_eq_some_iff.1 hk).1]; exact hk
theorem Oth.ofBelow {w w' : World} (h : Below w.heap.size w w') : Oth w w' := fun k cs t f hk _ => by rw [h.block k (Array.getElem?_eq_some_iff.1 hk).1]; exact hk

theorem own_ty {w : World} {B : Nat} {v : Value} {n : Nat} {cs : List Value} (h : w.ownsRow B 5 1 v n cs) : ∀ k, v.ownBlock = some k → B ≤ k ∧ ∃ cur, w.heap[k]? = some (.cells cur 5 (0, 0)) := by
  intro k hk
  rcases h.2 with ⟨rfl, _⟩ | ⟨g, cap, cur, rfl, hB, hg, _⟩
  · cases hk
  · cases hk; exact ⟨hB, cur, hg⟩
theorem Txt.grow {B : Nat} {w0 w w' : World} {v v' : Value} {l src : List UInt8} (h : Txt B w0 w v l) (hown : w'.ownsRow B 5 1 v' (l.length + src.length) (cellsOf l ++ cellsOf src)) (hg : w.grownBy w' v.ownBlock) : Txt B w0 w' v' (l ++ src) ∧ Oth w w' := by
  refine ⟨⟨by rw [List.length_append, cellsOf_append]; exact hown, h.bel.grown hg h.hB' (fun k hk => (own_ty h.own k hk).1), h.hB⟩, fun k cs t f hk ht => ?_⟩
  rw [hg.block k (Array.getElem?_eq_some_iff.1 hk).1 (fun e => ?_)]
  · exact hk
  · obtain ⟨_, cur, hc⟩ := own_ty h.own k e.symm
    exact ht (ty_eq hk hc)

theorem strCells_of (s : ByteArray) : Lib.strCells s = cellsOf s.data.toList := rfl

/-- Bytes are appended. -/
theorem app_slice {w : World} {ops : Array Oper} {rest : List Oper} {o : Oper} {a : Act} {Q : Exit → Act → World → Prop} (hg : o.guard = none) (s x : Operand)
    (hop : o.op = .call { callee := .builtin .append, args := #[s, x], argTypes := #[24, 24] }) {B : Nat} {w0 : World} {v : Value} {l : List UInt8} (hs : a.eval s = v) (hT : Txt B w0 w v l)
    {b off n c : Nat} {src : List UInt8} (hx : a.eval x = .slice (some ⟨b, off, none⟩) n c) (hn : src.length = n) (hL : Lies w b off src) (hlen : l.length + src.length ≤ 140737488351232)
    (K : ∀ v' w', Txt B w0 w' v' (l ++ src) → Oth w w' → wpList Tryz.prog ops Q rest (a.put o.dst v') w') : wpList Tryz.prog ops Q (o :: rest) a w := by
  obtain ⟨i0, hi, hz0, hz1, hz2⟩ := info_parts info5
  subst hn
  exact wpList_append_own _ hg s x 24 hop B 5 i0 (.int .u8 0) 1 1 Tryz.underlying24 hi hz0 hz1 hz2 rfl (by decide) v l.length (cellsOf l) hs hT.own ⟨b, off, none⟩ src.length c (cellsOf src) hx (by rw [cellsOf_length, Nat.mul_one]) hL.cells (cellsOf_one src)
    (by unfold maxLen; omega) (by omega) hT.hB' fun v' w' h1 h2 _ => K v' w' (hT.grow h1 h2).1 (hT.grow h1 h2).2
/-- A string is appended. -/
theorem app_str {w : World} {ops : Array Oper} {rest : List Oper} {o : Oper} {a : Act} {Q : Exit → Act → World → Prop} (hg : o.guard = none) (s x : Operand)
    (hop : o.op = .call { callee := .builtin .append, args := #[s, x], argTypes := #[24, 9] }) {B : Nat} {w0 : World} {v : Value} {l : List UInt8} (hs : a.eval s = v) (hT : Txt B w0 w v l)
    {str : ByteArray} (hx : a.eval x = .string str) (hlen : l.length + str.data.toList.length ≤ 140737488351232)
    (K : ∀ v' w', Txt B w0 w' v' (l ++ str.data.toList) → Oth w w' → wpList Tryz.prog ops Q rest (a.put o.dst v') w') : wpList Tryz.prog ops Q (o :: rest) a w := by
  obtain ⟨i0, hi, hz0, hz1, hz2⟩ := info_parts info5
  have hz : str.size = str.data.toList.length := by rw [Array.length_toList]; rfl
  refine Lib.wpList_append_own_string _ hg s x 24 9 hop B 5 i0 Tryz.underlying24 Tryz.underlying9 hi hz0 hz1 hz2 v l.length (cellsOf l) hs hT.own str hx (by unfold maxLen; omega) (by omega) hT.hB' fun v' w' h1 h2 _ => ?_
  rw [hz, strCells_of] at h1
  exact K v' w' (hT.grow h1 h2).1 (hT.grow h1 h2).2
theorem new1 (w : World) (c : UInt8) (n : Int) (hn : n = c.toNat) : Lies (w.alloc (.cells #[.int .u8 n] 5)) w.heap.size 0 [c] := by
  subst hn
  intro i hi
  have hi' : i < 1 := hi
  obtain rfl : i = 0 := by omega
  rw [cell_at (alloc_new _ _)]; rfl

/-- Blanks by a number. -/
def gapS (st : Int) : ByteArray := if st = 0 then ⟨#[]⟩ else if st = 1 then ⟨#[32]⟩ else ⟨#[10, 32]⟩
def gapL (st : Int) : List UInt8 := (gapS st).data.toList
theorem gapL_len (st : Int) : (gapL st).length ≤ 2 := by unfold gapL gapS; split <;> (try split) <;> decide
theorem gap_any (w : World) (st : Int) (h : st = 0 ∨ st = 1 ∨ st = 2) : Calls Tryz.prog 16 #[.int .i64 st] w fun e w' => e = .returned (.string (gapS st)) ∧ w = w' := by
  have i0 : ∀ w, (Instr.index 75 (.agg #[.string ⟨#[]⟩, .string ⟨#[32]⟩, .string ⟨#[10, 32]⟩]) (.int .i64 0)).run Tryz.prog w = .ok (.string ⟨#[]⟩) w := fun _ => by kernel_rfl
  have i1 : ∀ w, (Instr.index 75 (.agg #[.string ⟨#[]⟩, .string ⟨#[32]⟩, .string ⟨#[10, 32]⟩]) (.int .i64 1)).run Tryz.prog w = .ok (.string ⟨#[32]⟩) w := fun _ => by kernel_rfl
  have i2 : ∀ w, (Instr.index 75 (.agg #[.string ⟨#[]⟩, .string ⟨#[32]⟩, .string ⟨#[10, 32]⟩]) (.int .i64 2)).run Tryz.prog w = .ok (.string ⟨#[10, 32]⟩) w := fun _ => by kernel_rfl
  rcases h with rfl | rfl | rfl
  all_goals
    go_enter Tryz.func16, Tryz.ntmps16
    go_wp2
    go_ret
    exact ⟨rfl, rfl⟩

/-- Words with a blank in front of each. -/
def wordsL (ws : List (List UInt8)) : List UInt8 := ws.flatMap fun x => 32 :: x
theorem wordsL_len (ws : List (List UInt8)) (h : ∀ x ∈ ws, x.length ≤ 60) : (wordsL ws).length ≤ 61 * ws.length := by
  induction ws with
  | nil => simp [wordsL]
  | cons x ws ih =>
    have h1 := h x (by simp)
    have h2 := ih fun y hy => h y (by simp [hy])
    simp only [wordsL, List.flatMap_cons, List.length_append, List.length_cons] at h2 ⊢
    omega
theorem take_mem {α : Type} {l : List α} {n : Nat} {x : α} (h : x ∈ l.take n) : x ∈ l := List.mem_of_mem_take h
def WPost (w : World) (l : List UInt8) (e : Ending) (w' : World) : Prop := ∃ v, e = .returned v ∧ Txt w.heap.size w w' v l

set_option maxRecDepth 100000 in
set_option maxHeartbeats 4000000 in
theorem words_any (w : World) (v : Value) (ws : List (List UInt8)) (h : WordsMem w v ws) (hx : ∀ x ∈ ws, 0 < x.length ∧ x.length ≤ 60) (hlen : ws.length ≤ 8) : Calls Tryz.prog 17 #[v] w (WPost w (wordsL ws)) := by
  obtain ⟨a, c, rfl, hc1, hc2, hpos⟩ := h
  have hst := Txt.start w
  rcases Nat.eq_zero_or_pos ws.length with h0 | h0
  · rw [h0, List.eq_nil_of_length_eq_zero h0]
    clear hpos h0 hc1 hlen hx
    go_enter Tryz.func17, Tryz.ntmps17
    go_wp2
    refine wp_loop_once fun _ => ?_
    go_wp2
    go_ret
    exact ⟨_, rfl, hst⟩
  obtain ⟨g, o, rfl, hcell⟩ := hpos h0
  have HC := Lib.hid hcell
  have HX := Lib.hid hx
  clear hpos hcell hx
  go_enter Tryz.func17, Tryz.ntmps17
  go_wp2
  go_loopg [3, 9] ws.length (fun k v3 i wr => ∃ q, q ≤ ws.length ∧ k = ws.length - q ∧ i = .int .i64 q ∧ Txt w.heap.size w wr v3 (wordsL (ws.take q)))
  case atStart => exact ⟨0, Nat.zero_le _, rfl, rfl, hst⟩
  case round =>
    clear hst
    obtain ⟨q, hq, hk, rfl, hT⟩ := hrel
    have HK := Lib.hid hk
    clear hk
    obtain ⟨va, vn, vc, rfl⟩ := hT.shape
    by_cases hlt : q < ws.length
    · obtain ⟨x, hx⟩ : ∃ x, x = ws[q] := ⟨_, rfl⟩
      obtain ⟨u, hu1, hu2⟩ := HC.out q hlt
      obtain ⟨hx1, hx2⟩ := HX.out ws[q] (List.getElem_mem hlt)
      rw [← hx] at hu2 hx1 hx2
      have HLT := Lib.hid hlt
      have HTK := Lib.hid (show wordsL (ws.take (q + 1)) = wordsL (ws.take q) ++ [32] ++ x from by
        rw [List.take_succ_eq_append_getElem hlt, wordsL, List.flatMap_append, hx]; simp [wordsL])
      have HLN := Lib.hid (show (wordsL (ws.take q)).length ≤ 488 from by
        have h1 := wordsL_len (ws.take q) fun y hy => (HX.out y (take_mem hy)).2
        have h2 := List.length_take_le q ws
        have h3 : (ws.take q).length ≤ 8 := Nat.le_trans (List.length_take_le' q ws) hlen
        omega)
      have k0 : wr.cell? ⟨g, o + q, none⟩ = some u := (hT.bel.cell (p := ⟨g, o + q, none⟩) (World.block_lt_of_cell? w _ hu1)).trans hu1
      obtain ⟨ua, uc, rfl, hu3, hu4, hup⟩ := hu2
      obtain ⟨b, off, rfl, hL⟩ := hup hx1
      have HL := Lib.hid hL
      clear hu1 hup hL hx
      go_wp2_with (first | (at_builtin; refine app_slice rfl (.tmp 13) (.tmp 14) rfl rfl (hT.alloc _) rfl rfl (new1 _ 32 _ rfl) (by have := HLN.out; simp only [List.length_append, List.length_cons, List.length_nil]; omega) ?_; intro v' w4 hT4 _; obtain ⟨va4, vn4, vc4, rfl⟩ := hT4.shape) | (at_builtin; refine app_slice rfl (.tmp 15) (.tmp 16) rfl rfl hT4 rfl rfl (HL.out.below (HL.out.lt hx1) hT4.bel) (by have := HLN.out; simp only [List.length_append, List.length_cons, List.length_nil]; omega) ?_; intro v' w5 hT5 _; obtain ⟨va5, vn5, vc5, rfl⟩ := hT5.shape))
      have HT5 := Lib.hid hT5
      clear hT hT4 hT5
      go_roundg (ws.length - (q + 1))
      case measure => have h1 := HK.out; have h2 := HLT.out; omega
      case rel => exact ⟨q + 1, HLT.out, rfl, by go_num, by rw [HTK.out]; exact HT5.out⟩
    · have hq' : q = ws.length := by omega
      have HT := Lib.hid hT
      subst hq'
      go_wp2
      go_ret
      have := HT.out
      rw [List.take_length] at this
      exact ⟨_, rfl, this⟩
end Go.Proofs.YtlglijnaeaonpaaGreatDoor.Css
/- The text of declarations. -/
namespace Go.Proofs.YtlglijnaeaonpaaGreatDoor.Css
open Go.RowKit

def declHead (st : Int) (d : List UInt8 × List (List UInt8)) : List UInt8 := d.1 ++ [58] ++ gapL st
def declOne (st : Int) (d : List UInt8 × List (List UInt8)) : List UInt8 := declHead st d ++ (wordsL d.2).drop 1
def dsep (st : Int) : List UInt8 := [59] ++ gapL st
/-- The text of declarations. -/
def dtext (st : Int) : List (List UInt8 × List (List UInt8)) → List UInt8
  | [] => []
  | d :: ds => declOne st d ++ ds.flatMap fun d => dsep st ++ declOne st d
theorem dtext_snoc (st : Int) (ds : List (List UInt8 × List (List UInt8))) (d : List UInt8 × List (List UInt8)) : dtext st (ds ++ [d]) = dtext st ds ++ (if ds.length = 0 then [] else dsep st) ++ declOne st d := by
  cases ds with
  | nil => simp [dtext]
  | cons a ds => simp [dtext, List.flatMap_append]
theorem declOne_len (st : Int) (d : List UInt8 × List (List UInt8)) (h1 : d.1.length ≤ 20) (h2 : ∀ x ∈ d.2, x.length ≤ 60) (h3 : d.2.length ≤ 8) : (declOne st d).length ≤ 520 := by
  have := gapL_len st
  have := wordsL_len d.2 h2
  simp only [declOne, declHead, List.length_append, List.length_drop, List.length_cons, List.length_nil]
  omega
theorem dtext_len (st : Int) (ds : List (List UInt8 × List (List UInt8))) (h : ∀ d ∈ ds, d.1.length ≤ 20 ∧ (∀ x ∈ d.2, x.length ≤ 60) ∧ d.2.length ≤ 8) : (dtext st ds).length ≤ 523 * ds.length := by
  have key : ∀ l : List (List UInt8 × List (List UInt8)), (∀ d ∈ l, d.1.length ≤ 20 ∧ (∀ x ∈ d.2, x.length ≤ 60) ∧ d.2.length ≤ 8) → (l.flatMap fun d => dsep st ++ declOne st d).length ≤ 523 * l.length := by
    intro l hl
    induction l with
    | nil => simp
    | cons a l ih =>
      obtain ⟨a1, a2, a3⟩ := hl a (by simp)
      have h1 := declOne_len st a a1 a2 a3
      have h2 := ih fun d hd => hl d (by simp [hd])
      have h3 := gapL_len st
      simp only [List.flatMap_cons, List.length_append, List.length_cons, dsep, List.length_nil] at h2 ⊢
      omega
  cases ds with
  | nil => simp [dtext]
  | cons a ds =>
    obtain ⟨a1, a2, a3⟩ := h a (by simp)
    have h1 := declOne_len st a a1 a2 a3
    have h2 := key ds fun d hd => h d (by simp [hd])
    simp only [dtext, List.length_append, List.length_cons]
    omega
theorem byte_drop (l : List UInt8) (k i : Nat) : byte (l.drop k) i = byte l (k + i) := by
  unfold byte
  rw [List.getD_eq_getElem?_getD, List.getElem?_drop, ← List.getD_eq_getElem?_getD]
theorem Lies.drop {w : World} {b off : Nat} {l : List UInt8} (h : Lies w b off l) (k : Nat) : Lies w b (off + k) (l.drop k) := by
  intro i hi
  rw [List.length_drop] at hi
  rw [byte_drop, Nat.add_assoc]
  exact h (k + i) (by omega)
theorem VT.len {l : List UInt8} (h : VT l) : 0 < l.length ∧ l.length ≤ 60 := ⟨h.pos, h.le⟩
theorem wordsL_pos {ws : List (List UInt8)} (h : ws ≠ []) (hx : ∀ x ∈ ws, 0 < x.length) : 2 ≤ (wordsL ws).length := by
  cases ws with
  | nil => exact absurd rfl h
  | cons a ws =>
    have := hx a (by simp)
    simp only [wordsL, List.flatMap_cons, List.length_append, List.length_cons]
    omega

set_option maxRecDepth 100000 in
set_option maxHeartbeats 4000000 in
theorem declsText_any (w : World) (v : Value) (ds : List (List UInt8 × List (List UInt8))) (st : Int) (h : DeclsMem w v ds) (hok : DsOK ds) (hst : st = 0 ∨ st = 1 ∨ st = 2) :
    Calls Tryz.prog 12 #[v, .int .i64 st] w (WPost w (dtext st ds)) := by
  obtain ⟨a, c, rfl, hc1, hc2, hpos⟩ := h
  have hstart := Txt.start w
  have hgap := fun w => gap_any w st hst
  have HB := Lib.hid (show ∀ d ∈ ds, d.1.length ≤ 20 ∧ (∀ x ∈ d.2, x.length ≤ 60) ∧ d.2.length ≤ 8 from fun d hd => ⟨(hok.ok d hd).1.le, fun x hx => ((hok.ok d hd).2.1.vt x hx).le, (hok.ok d hd).2.1.le⟩)
  have HOK := Lib.hid hok
  have hlen := hok.le
  clear hst hok
  rcases Nat.eq_zero_or_pos ds.length with h0 | h0
  · rw [h0, List.eq_nil_of_length_eq_zero h0]
    clear hpos h0 hc1 hlen hgap
    go_enter Tryz.func12, Tryz.ntmps12
    go_wp2
    refine wp_loop_once fun _ => ?_
    go_wp2
    go_ret
    exact ⟨_, rfl, hstart⟩
  obtain ⟨g, o, rfl, hcell⟩ := hpos h0
  have HC := Lib.hid hcell
  clear hpos hcell
  go_enter Tryz.func12, Tryz.ntmps12
  go_wp2
  go_loopg [5, 11] ds.length (fun k v5 i wr => ∃ q, q ≤ ds.length ∧ k = ds.length - q ∧ i = .int .i64 q ∧ Txt w.heap.size w wr v5 (dtext st (ds.take q)))
  case atStart => exact ⟨0, Nat.zero_le _, rfl, rfl, hstart⟩
  case round =>
    clear hstart
    obtain ⟨q, hq, hk, rfl, hT⟩ := hrel
    have HK := Lib.hid hk
    clear hk
    obtain ⟨va, vn, vc, rfl⟩ := hT.shape
    by_cases hlt : q < ds.length
    · obtain ⟨d, hd⟩ : ∃ d, d = ds[q] := ⟨_, rfl⟩
      obtain ⟨u, x, hu1, hx1, hu2, hx2⟩ := HC.out q hlt
      have hok1 := HOK.out.ok ds[q] (List.getElem_mem hlt)
      rw [← hd] at hu2 hx2 hok1
      have HLT := Lib.hid hlt
      obtain ⟨T, hTe⟩ : ∃ T, T = dtext st (ds.take q) := ⟨_, rfl⟩
      have HTK := Lib.hid (show dtext st (ds.take (q + 1)) = T ++ (if q = 0 then [] else dsep st) ++ declOne st d from by
        rw [List.take_succ_eq_append_getElem hlt, dtext_snoc, ← hd, ← hTe, List.length_take, Nat.min_eq_left (by omega)])
      have hTl : T.length ≤ 5230 := by
        have h1 := dtext_len st (ds.take q) fun d hd => HB.out d (take_mem hd)
        have h2 : (ds.take q).length ≤ 10 := Nat.le_trans (List.length_take_le' q ds) hlen
        rw [← hTe] at h1
        omega
      rw [← hTe] at hT
      have k0 : wr.cell? ⟨g, o + q * 2, none⟩ = some u := (hT.bel.cell (p := ⟨g, o + q * 2, none⟩) (World.block_lt_of_cell? w _ hu1)).trans hu1
      have k1 : wr.cell? ⟨g, o + q * 2 + 1, none⟩ = some x := (hT.bel.cell (p := ⟨g, o + q * 2 + 1, none⟩) (World.block_lt_of_cell? w _ hx1)).trans hx1
      obtain ⟨ua, uc, rfl, _, _, hup⟩ := id hu2
      obtain ⟨nb, noff, rfl, hnL⟩ := hup hok1.1.lo
      obtain ⟨xa, xc, rfl, _, _, _⟩ := id hx2
      have hd1 := hok1.1.le
      have hd0 := hok1.1.lo
      have HNL := Lib.hid hnL
      clear hup hnL
      have HM := Lib.hid (show _ ∧ _ ∧ _ from ⟨hu2, hx2, hok1⟩)
      have hgl := gapL_len st
      clear hu1 hu2 hx1 hx2 hd hTe hok1
      go_upto_region 4 with fail
      go_cut [6, 7] (fun s6 s7 wx => s6 = .int .i64 q ∧ ∃ tg, s7 = .pointer (some ⟨tg, 0, none⟩) ∧ wx.heap[tg]? = some (.cells #[.slice (some ⟨nb, noff, none⟩) d.1.length uc, .slice xa d.2.length xc] 68 (0, 0)) ∧ Below wr.heap.size wr wx)
      case first =>
        have hb := (Below.refl wr.heap.size wr).alloc (Nat.le_refl _)
        go_wp2_with fail
        go_meet
        exact ⟨rfl, _, rfl, alloc_new _ _, hb _⟩
      case rest =>
      clear k0 k1
      obtain ⟨rfl, tg, rfl, htg, hbx⟩ := hcut
      have hTx := hT.below hbx
      clear hT hbx
      obtain ⟨S1, hS1⟩ : ∃ S1, S1 = T ++ (if q = 0 then [] else dsep st) := ⟨_, rfl⟩
      have hS1l : S1.length ≤ 5240 := by
        rw [hS1, List.length_append]
        split
        · simp; omega
        · simp only [dsep, List.length_append, List.length_cons, List.length_nil]; omega
      have HS1 := Lib.hid hS1
      clear hS1
      go_upto_if 17 with fail
      go_cut [5] (fun v5 wx => Txt w.heap.size w wx v5 S1 ∧ wx.heap[tg]? = some (.cells #[.slice (some ⟨nb, noff, none⟩) d.1.length uc, .slice xa d.2.length xc] 68 (0, 0)))
      case first =>
        by_cases hq0 : q = 0
        · have e := Lib.hid (show S1 = T from by rw [HS1.out, if_pos hq0, List.append_nil])
          have z2 : ¬ 0 < q := by omega
          have z3 : ¬ (0 : Int) < (q : Int) := by omega
          clear hq0
          go_wp2_with fail
          go_meet
          rw [e.out]; exact ⟨hTx, htg⟩
        · have z0 : 0 < q := by omega
          have z1 : (0 : Int) < (q : Int) := by omega
          have e := Lib.hid (show S1 = T ++ [59] ++ (gapS st).data.toList from by rw [HS1.out, if_neg hq0, List.append_assoc]; rfl)
          clear hq0
          go_wp2_with (first | (at_builtin; refine app_slice rfl (.tmp 18) (.tmp 19) rfl rfl (hTx.alloc _) rfl rfl (new1 _ 59 _ rfl) (by simp only [List.length_cons, List.length_nil]; omega) ?_; intro v' w4 hT4 ho4; obtain ⟨va4, vn4, vc4, rfl⟩ := hT4.shape; have ho4' := (Oth.alloc _ _).trans ho4) | (go_at_call 16; ((with_reducible refine (hgap _).mono ?_); rintro e w' ⟨rfl, rfl⟩)) | (at_builtin; refine app_str rfl (.tmp 20) (.tmp 22) rfl rfl hT4 rfl (by have := gapL_len st; unfold gapL at this; simp only [List.length_append, List.length_cons, List.length_nil]; omega) ?_; intro v' w5 hT5 ho5; obtain ⟨va5, vn5, vc5, rfl⟩ := hT5.shape; have ho5' := ho4'.trans ho5))
          go_meet
          rw [e.out]; exact ⟨hT5, ho5' _ _ _ _ htg (by decide)⟩
      case rest =>
      clear hTx htg
      obtain ⟨hT2, htg⟩ := hcut
      obtain ⟨va2, vn2, vc2, rfl⟩ := hT2.shape
      have t0 : wc.cell? ⟨tg, 0, none⟩ = some (.slice (some ⟨nb, noff, none⟩) d.1.length uc) := by rw [cell_at htg]; rfl
      go_upto_region 7 with fail
      go_cut [5] (fun v5 wx => Txt w.heap.size w wx v5 (S1 ++ declHead st d) ∧ wx.heap[tg]? = some (.cells #[.slice (some ⟨nb, noff, none⟩) d.1.length uc, .slice xa d.2.length xc] 68 (0, 0)))
      case first =>
        have e := Lib.hid (show S1 ++ declHead st d = S1 ++ d.1 ++ [58] ++ (gapS st).data.toList from by simp only [declHead, gapL, List.append_assoc])
        go_wp2_with (first | (at_builtin; refine app_slice rfl (.tmp 24) (.tmp 26) rfl rfl hT2 rfl rfl (HNL.out.below (HNL.out.lt hd0) hT2.bel) (by omega) ?_; intro v' w4 hT4 ho4; obtain ⟨va4, vn4, vc4, rfl⟩ := hT4.shape) | (at_builtin; refine app_slice rfl (.tmp 27) (.tmp 28) rfl rfl (hT4.alloc _) rfl rfl (new1 _ 58 _ rfl) (by simp only [List.length_append, List.length_cons, List.length_nil]; omega) ?_; intro v' w5 hT5 ho5; obtain ⟨va5, vn5, vc5, rfl⟩ := hT5.shape; have ho5' := (ho4.trans (Oth.alloc _ _)).trans ho5) | (go_at_call 16; ((with_reducible refine (hgap _).mono ?_); rintro e w' ⟨rfl, rfl⟩)) | (at_builtin; refine app_str rfl (.tmp 29) (.tmp 31) rfl rfl hT5 rfl (by have := gapL_len st; unfold gapL at this; simp only [List.length_append, List.length_cons, List.length_nil]; omega) ?_; intro v' w6 hT6 ho6; obtain ⟨va6, vn6, vc6, rfl⟩ := hT6.shape; have ho6' := ho5'.trans ho6))
        go_meet
        rw [e.out]; exact ⟨hT6, ho6' _ _ _ _ htg (by decide)⟩
      case rest =>
      clear hT2 htg t0
      obtain ⟨hT3, htg⟩ := hcut
      obtain ⟨va3, vn3, vc3, rfl⟩ := hT3.shape
      have t1 : wc.cell? ⟨tg, 1, none⟩ = some (.slice xa d.2.length xc) := by rw [cell_at htg]; rfl
      obtain ⟨hu, hx, hok1⟩ := HM.out
      have hS2 : (S1 ++ declHead st d).length ≤ 5270 := by
        simp only [declHead, List.length_append, List.length_cons, List.length_nil]; omega
      have hww := words_any wc _ d.2 (hx.below hT3.bel) (fun x hx => (hok1.2.1.vt x hx).len) hok1.2.1.le
      have hwp := wordsL_pos hok1.2.2 fun x hx => (hok1.2.1.vt x hx).pos
      have hwl : (wordsL d.2).length ≤ 488 := by
        have h1 := wordsL_len d.2 fun x hx => (hok1.2.1.vt x hx).le
        have h2 := hok1.2.1.le
        omega
      have HE := Lib.hid (show dtext st (ds.take (q + 1)) = S1 ++ declHead st d ++ (wordsL d.2).drop 1 from by rw [HTK.out, ← HS1.out, declOne, List.append_assoc])
      clear hu hx hok1 htg
      go_wp2_with (first | (go_at_call 17; (with_reducible refine hww.mono ?_); rintro e w' ⟨wv, rfl, hTw⟩; obtain ⟨gb, wcap, rfl, _, _, hwc, hwL⟩ := owned_lies hTw.own (by omega); have hT4 := hT3.below hTw.bel; have HWL := Lib.hid hwL; have y1 : 1 ≤ (wordsL d.2).length := (by omega); have y2 : ¬ wcap = 1 := (by omega); clear hwL hT3 hTw) | (at_builtin; refine app_slice rfl (.tmp 33) (.tmp 37) rfl rfl hT4 rfl (List.length_drop ..) (HWL.out.drop 1) (by rw [List.length_drop]; omega) ?_; intro v' w5 hT5 ho5; obtain ⟨va5, vn5, vc5, rfl⟩ := hT5.shape))
      have HT5 := Lib.hid hT5
      clear hT5 hT4 hww
      go_roundg (ds.length - (q + 1))
      case measure => have h1 := HK.out; have h2 := HLT.out; omega
      case rel => exact ⟨q + 1, HLT.out, rfl, by go_num, by rw [HE.out]; exact HT5.out⟩
    · have hq' : q = ds.length := by omega
      have HT := Lib.hid hT
      subst hq'
      go_wp2
      go_ret
      have := HT.out
      rw [List.take_length] at this
      exact ⟨_, rfl, this⟩
end Go.Proofs.YtlglijnaeaonpaaGreatDoor.Css
/- The bytes of the tokens of texts. -/
namespace Go.Proofs.YtlglijnaeaonpaaGreatDoor.Css
open Go.RowKit

theorem info24 : (Tryz.prog.info? 24).map (fun i => (i.zero, i.size, i.bytes)) = some (some (.slice none 0 0), 1, 24) := by kernel_rfl

/-- A text whose tokens are these. -/
structure Fine (l : List UInt8) (ts : List (Int × Nat × Nat)) : Prop where
  bs : NoBs l
  nz : NoZ l
  le : l.length ≤ 60
  good : Good0 l ts
/-- The bytes of a text's tokens. -/
def tokB (l : List UInt8) (ts : List (Int × Nat × Nat)) : List (List UInt8) := ts.map fun k => seg l k.2.1 k.2.2
def toks (f : List UInt8 → List (Int × Nat × Nat)) (ws : List (List UInt8)) : List (List UInt8) := ws.flatMap fun x => tokB x (f x)
theorem Chain.mem {n p e : Nat} {l : List (Int × Nat × Nat)} (h : Chain n p l e) : ∀ k ∈ l, k.2.1 < k.2.2 ∧ k.2.2 ≤ n := by
  induction h with
  | nil p => intro k hk; cases hk
  | cons p q tt l e a b c ih =>
    intro k hk
    rcases List.mem_cons.1 hk with rfl | hk
    · exact ⟨a, b⟩
    · exact ih k hk
theorem Fine.cnt {l : List UInt8} {ts : List (Int × Nat × Nat)} (h : Fine l ts) : ts.length ≤ 60 := by
  have := h.good.1.len
  have := h.le
  omega
theorem toks_len {f : List UInt8 → List (Int × Nat × Nat)} {ws : List (List UInt8)} (h : ∀ x ∈ ws, Fine x (f x)) : (toks f ws).length ≤ 60 * ws.length := by
  induction ws with
  | nil => simp [toks]
  | cons x ws ih =>
    have h1 := (h x (by simp)).cnt
    have h2 := ih fun y hy => h y (by simp [hy])
    simp only [toks, List.flatMap_cons, List.length_append, List.length_cons, tokB, List.length_map] at h2 ⊢
    omega
theorem Lies.seg {w : World} {b off : Nat} {l : List UInt8} (h : Lies w b off l) {p q : Nat} (hq : q ≤ l.length) : Lies w b (off + p) (Css.seg l p q) := by
  intro i hi
  rw [seg_length hq] at hi
  rw [byte_seg hi, Nat.add_assoc]
  exact h (p + i) (by omega)

/-- A slice's value that holds these bytes in an old block. -/
def Slo (B : Nat) (w : World) (v : Value) (l : List UInt8) : Prop := ∃ a cap, v = .slice a l.length cap ∧ l.length ≤ cap ∧ cap ≤ 140737488351232 ∧ (0 < l.length → ∃ b off, a = some ⟨b, off, none⟩ ∧ b < B ∧ Lies w b off l)
theorem Slo.below {B : Nat} {w w' : World} {v : Value} {l : List UInt8} (h : Slo B w v l) (hb : Below B w w') : Slo B w' v l := by
  obtain ⟨a, cap, h1, h2, h3, h4⟩ := h
  refine ⟨a, cap, h1, h2, h3, fun h0 => ?_⟩
  obtain ⟨b, off, rfl, hlt, hL⟩ := h4 h0
  exact ⟨b, off, rfl, hlt, hL.below hlt hb⟩
theorem Slo.sl {B : Nat} {w : World} {v : Value} {l : List UInt8} (h : Slo B w v l) : Sl w v l := by
  obtain ⟨a, cap, h1, h2, h3, h4⟩ := h
  refine ⟨a, cap, h1, h2, h3, fun h0 => ?_⟩
  obtain ⟨b, off, rfl, hlt, hL⟩ := h4 h0
  exact ⟨b, off, rfl, hL⟩
/-- A list of texts of one's own, the texts in old blocks. -/
def OutW (B : Nat) (w0 w : World) (v : Value) (tl : List (List UInt8)) : Prop :=
  ∃ cs, Own w B 24 1 v tl.length cs ∧ (∀ i u, cs[i]? = some u → ∃ h : i < tl.length, Slo B w u tl[i]) ∧ Below B w0 w ∧ B ≤ w0.heap.size
/-- What is no row of slices of bytes stays. -/
def OthS (w w' : World) : Prop := w.heap.size ≤ w'.heap.size ∧ ∀ (k : Nat) (cs : Array Value) (t : TypeId) (f : Nat × Nat), w.heap[k]? = some (Obj.cells cs t f) → t ≠ 24 → w'.heap[k]? = some (Obj.cells cs t f)
theorem OthS.refl (w : World) : OthS w w := ⟨Nat.le_refl _, fun _ _ _ _ h _ => h⟩
theorem OthS.trans {a b c : World} (h : OthS a b) (k : OthS b c) : OthS a c := ⟨Nat.le_trans h.1 k.1, fun i cs t f hi ht => k.2 i cs t f (h.2 i cs t f hi ht) ht⟩
theorem OthS.alloc (w : World) (o : Obj) : OthS w (w.alloc o) := ⟨by simp, fun k cs t f hk _ => by rw [Below.heap_alloc _ _ _ (Array.getElem?_eq_some_iff.1 hk).1]; exact hk⟩
theorem OutW.shape {B : Nat} {w0 w : World} {v : Value} {tl : List (List UInt8)} (h : OutW B w0 w v tl) : ∃ a n c, v = .slice a n c := by
  obtain ⟨cs, ho, _⟩ := h
  rcases ho.2 with ⟨h1, h2⟩ | ⟨g, off, cap, cur, h1, _⟩
  · exact ⟨_, _, _, h1⟩
  · exact ⟨_, _, _, h1⟩
theorem OutW.hB' {B : Nat} {w0 w : World} {v : Value} {tl : List (List UInt8)} (h : OutW B w0 w v tl) : B ≤ w.heap.size := by
  obtain ⟨cs, _, _, h1, h2⟩ := h
  exact Nat.le_trans h2 h1.size
theorem OutW.below {B : Nat} {w0 w w' : World} {v : Value} {tl : List (List UInt8)} (h : OutW B w0 w v tl) (hb : Below w.heap.size w w') : OutW B w0 w' v tl := by
  have hB := h.hB'
  obtain ⟨cs, ho, hs, h1, h2⟩ := h
  exact ⟨cs, ho.keep fun k hk => hb.block k (ho.lt k hk).2.1, fun i u hu => (hs i u hu).imp fun _ hx => hx.below (hb.mono hB), h1.trans (hb.mono hB), h2⟩
theorem OutW.start (w0 : World) : OutW w0.heap.size w0 (w0.alloc (.cells #[] 24)) (.slice (some ⟨w0.heap.size, 0, none⟩) 0 0) [] :=
  ⟨[], ⟨rfl, .inr ⟨w0.heap.size, 0, 0, #[], rfl, Nat.le_refl _, alloc_new _ _, by simp, fun j u hj => by simp at hj, Nat.le_refl _, by unfold maxLen; omega⟩⟩, fun i u hu => by simp at hu, (Below.refl _ _).alloc (Nat.le_refl _) _, Nat.le_refl _⟩
theorem new_cell (w : World) (u : Value) (t : TypeId) : (w.alloc (.cells #[u] t)).cell? ⟨w.heap.size, 0, none⟩ = some u := by
  rw [World.cell?_alloc_new]; rfl
theorem new_cell2 (w : World) (o : Obj) (u : Value) (t : TypeId) : ((w.alloc o).alloc (.cells #[u] t)).cell? ⟨w.heap.size + 1, 0, none⟩ = some u := by
  have := new_cell (w.alloc o) u t
  rwa [show (w.alloc o).heap.size = w.heap.size + 1 from by simp] at this
/-- A text is appended to a list of texts. -/
theorem app_w {w : World} {ops : Array Oper} {rest : List Oper} {o : Oper} {a : Act} {Q : Exit → Act → World → Prop} (hg : o.guard = none) (s x : Operand)
    (hop : o.op = .call { callee := .builtin .append, args := #[s, x], argTypes := #[36, 36] }) {B : Nat} {w0 : World} {v : Value} {tl : List (List UInt8)} (hs : a.eval s = v) (hT : OutW B w0 w v tl)
    {g c : Nat} {u : Value} {l : List UInt8} (hx : a.eval x = .slice (some ⟨g, 0, none⟩) 1 c) (hu : w.cell? ⟨g, 0, none⟩ = some u) (hl : Slo B w u l) (hlen : tl.length ≤ 1000000)
    (K : ∀ v' w', OutW B w0 w' v' (tl ++ [l]) → OthS w w' → wpList Tryz.prog ops Q rest (a.put o.dst v') w') : wpList Tryz.prog ops Q (o :: rest) a w := by
  obtain ⟨i0, hi, hz0, hz1, hz2⟩ := info_parts info24
  have hB := hT.hB'
  obtain ⟨cs, ho, hcs, h1, h2⟩ := hT
  have hone : u.oneCell' = true := by obtain ⟨_, _, rfl, _⟩ := hl; rfl
  refine wpList_append_Own _ hg s x 36 hop B 24 i0 (.slice none 0 0) 1 24 Tryz.underlying36 hi hz0 hz1 hz2 rfl (by decide) v tl.length cs hs ho ⟨g, 0, none⟩ 1 c [u] hx rfl (fun j z hj => ?_) (fun z hz => ?_) (by unfold maxLen; omega) (by omega) hB fun v' w' r1 r2 => K v' w' ?_ ?_
  · have hj1 : j < 1 := (List.getElem?_eq_some_iff.1 hj).1
    obtain rfl : j = 0 := by omega
    cases hj; exact hu
  · rw [List.mem_singleton.1 hz]; exact hone
  · have hbw : Below B w w' := (Below.refl _ _).grown r2 hB (fun k hk => (ho.lt k hk).1)
    have hcl : cs.length = tl.length := by have := ho.1; omega
    refine ⟨cs ++ [u], by rw [List.length_append]; exact r1, fun i z hi => ?_, h1.trans hbw, h2⟩
    rcases Nat.lt_or_ge i cs.length with hlt | hge
    · rw [List.getElem?_append_left hlt] at hi
      obtain ⟨h, hx⟩ := hcs i z hi
      exact ⟨by rw [List.length_append]; omega, by rw [List.getElem_append_left h]; exact hx.below hbw⟩
    · rw [List.getElem?_append_right hge] at hi
      have h0 : i - cs.length < 1 := (List.getElem?_eq_some_iff.1 hi).1
      have e : i - cs.length = 0 := by omega
      rw [e] at hi
      cases hi
      exact ⟨by rw [List.length_append, List.length_singleton]; omega, by rw [List.getElem_append_right (by omega)]; simpa using hl.below hbw⟩
  · refine ⟨r2.size, fun k cs' t f hk ht => ?_⟩
    rw [r2.block k (Array.getElem?_eq_some_iff.1 hk).1 (fun e => ?_)]
    · exact hk
    · obtain ⟨_, _, cur, hc⟩ := ho.lt k e.symm
      exact ht (ty_eq hk hc)
theorem toks_snoc (f : List UInt8 → List (Int × Nat × Nat)) (ws : List (List UInt8)) (q : Nat) (h : q < ws.length) : toks f (ws.take (q + 1)) = toks f (ws.take q) ++ tokB ws[q] (f ws[q]) := by
  rw [List.take_succ_eq_append_getElem h, toks, List.flatMap_append]; simp [toks]
theorem tokB_take (l : List UInt8) (ts : List (Int × Nat × Nat)) (j : Nat) (h : j < ts.length) : tokB l (ts.take (j + 1)) = tokB l (ts.take j) ++ [seg l ts[j].2.1 ts[j].2.2] := by
  rw [List.take_succ_eq_append_getElem h, tokB, List.map_append]; rfl
/-- The tokens' bytes, told. -/
def TPost (w : World) (tl : List (List UInt8)) (e : Ending) (w' : World) : Prop := ∃ v, e = .returned v ∧ OutW w.heap.size w w' v tl

set_option maxRecDepth 100000 in
set_option maxHeartbeats 4000000 in
theorem toks_any (w : World) (v : Value) (ws : List (List UInt8)) (f : List UInt8 → List (Int × Nat × Nat)) (h : WordsMem w v ws) (hU : Utab w) (hx : ∀ x ∈ ws, Fine x (f x)) (hlen : ws.length ≤ 8) : Calls Tryz.prog 28 #[v] w (TPost w (toks f ws)) := by
  obtain ⟨a, c, rfl, hc1, hc2, hpos⟩ := h
  have hst := OutW.start w
  rcases Nat.eq_zero_or_pos ws.length with h0 | h0
  · rw [h0, List.eq_nil_of_length_eq_zero h0]
    clear hpos h0 hc1 hlen hx hU
    go_enter Tryz.func28, Tryz.ntmps28
    go_wp2
    refine wp_loop_once fun _ => ?_
    go_wp2
    go_ret
    exact ⟨_, rfl, hst⟩
  obtain ⟨g, o, rfl, hcell⟩ := hpos h0
  have HC := Lib.hid hcell
  have HX := Lib.hid hx
  have HU := Lib.hid hU
  clear hpos hcell hx hU
  go_enter Tryz.func28, Tryz.ntmps28
  go_wp2
  go_loopg [3, 13] ws.length (fun k v3 i wr => ∃ q, q ≤ ws.length ∧ k = ws.length - q ∧ i = .int .i64 q ∧ OutW w.heap.size w wr v3 (toks f (ws.take q)))
  case atStart => exact ⟨0, Nat.zero_le _, rfl, rfl, hst⟩
  case round =>
    clear hst
    obtain ⟨q, hq, hk, rfl, hT⟩ := hrel
    have HK := Lib.hid hk
    clear hk
    obtain ⟨va, vn, vc, rfl⟩ := hT.shape
    by_cases hlt : q < ws.length
    · obtain ⟨x, hxe⟩ : ∃ x, x = ws[q] := ⟨_, rfl⟩
      obtain ⟨u, hu1, hu2⟩ := HC.out q hlt
      have hfine := HX.out ws[q] (List.getElem_mem hlt)
      rw [← hxe] at hu2 hfine
      have HLT := Lib.hid hlt
      have HTK := Lib.hid (show toks f (ws.take (q + 1)) = toks f (ws.take q) ++ tokB x (f x) from by rw [toks_snoc f ws q hlt, ← hxe])
      have HLN := Lib.hid (show (toks f (ws.take q)).length ≤ 480 from by
        have h1 := toks_len (f := f) (ws := ws.take q) fun y hy => HX.out y (take_mem hy)
        have h3 : (ws.take q).length ≤ 8 := Nat.le_trans (List.length_take_le' q ws) hlen
        omega)
      have hbel0 : Below w.heap.size w wr := by obtain ⟨_, _, _, h, _⟩ := hT; exact h
      have k0 : wr.cell? ⟨g, o + q, none⟩ = some u := (hbel0.cell (p := ⟨g, o + q, none⟩) (World.block_lt_of_cell? w _ hu1)).trans hu1
      have hslo : Slo w.heap.size w u x := by
        obtain ⟨ua, uc, e, hu3, hu4, hup⟩ := hu2
        refine ⟨ua, uc, e, hu3, hu4, fun h0 => ?_⟩
        obtain ⟨b, off, e2, hL⟩ := hup h0
        exact ⟨b, off, e2, hL.lt h0, hL⟩
      have htok := tokens_any wr u x (hslo.below hbel0).sl (HU.out.below HU.out.lt hbel0) (by have := hfine.le; omega)
      obtain ⟨ua, uc, rfl, _, _, _⟩ := id hu2
      have HS := Lib.hid hslo
      have HF := Lib.hid hfine
      have HOT := Lib.hid hT
      clear hu1 hu2 hxe hslo hfine hT hlt hbel0
      go_upto_region 6 with (go_at_call 49; ((with_reducible refine htok.mono ?_); rintro e w1 ⟨b, off, cap', ts, out, ok, rfl, hbel, hout, hv⟩; obtain ⟨rfl, -⟩ := hout.det HF.out.bs HF.out.nz _ HF.out.good; obtain ⟨oa, oc, rfl, hoc, hoc2, hpos⟩ := id hout.own.tokMem; have HT := Lib.hid hout; have HV := Lib.hid hv; have HBL := Lib.hid hbel; clear hout hv hbel htok))
      unfold maxLen at hoc2
      clear hpos
      have hstart : OutW w.heap.size w w1 (.slice va vn vc) (toks f (ws.take q) ++ tokB x ((f x).take 0)) := by
        rw [List.take_zero]
        show OutW _ _ _ _ (_ ++ [])
        rw [List.append_nil]
        exact HOT.out.below HBL.out
      have hcnt := HF.out.cnt
      obtain ⟨B1, hB1⟩ : ∃ B1, B1 = wr.heap.size := ⟨_, rfl⟩
      have HOWN := Lib.hid (show Own w1 B1 55 6 (.slice oa (f x).length oc) (f x).length ((f x).flatMap (tcell b off cap')) from by rw [hB1]; exact HT.out.own)
      clear hB1
      go_wp2
      go_loopg [3, 24] (f x).length (fun k v3 i wr => ∃ j, j ≤ (f x).length ∧ k = (f x).length - j ∧ i = .int .i64 j ∧ OutW w.heap.size w wr v3 (toks f (ws.take q) ++ tokB x ((f x).take j)) ∧ OthS w1 wr)
      case atStart => exact ⟨0, Nat.zero_le _, rfl, rfl, hstart, OthS.refl _⟩
      case round =>
        clear hstart
        obtain ⟨j, hj, hk2, rfl, hT2, hoth⟩ := hrel
        have HK2 := Lib.hid hk2
        clear hk2
        obtain ⟨va2, vn2, vc2, rfl⟩ := hT2.shape
        by_cases hjl : j < (f x).length
        · have hown : Own wr B1 55 6 (.slice oa (f x).length oc) (f x).length ((f x).flatMap (tcell b off cap')) := HOWN.out.keep fun k hk => by
            obtain ⟨_, _, cur, hc⟩ := HOWN.out.lt k hk
            exact (hoth.2 _ _ _ _ hc (by decide)).trans hc.symm
          obtain ⟨gg, oo, cc, hce, _, _, hcell⟩ := TokMem.pos hown.tokMem (by omega)
          cases hce
          obtain ⟨k0, k1, k2, k3, k4, k5⟩ := hcell _ (Below.refl _ _) j hjl
          obtain ⟨kk, hkk⟩ : ∃ kk, kk = (f x)[j] := ⟨_, rfl⟩
          rw [← hkk] at k0 k1
          obtain ⟨m1, m2⟩ := HF.out.good.1.mem (f x)[j] (List.getElem_mem hjl)
          have HKT := Lib.hid (tokB_take x (f x) j hjl)
          rw [← hkk] at m1 m2 HKT
          have hbel2 : Below w.heap.size w wr := by obtain ⟨_, _, _, h, _⟩ := hT2; exact h
          have HSL := Lib.hid (show Slo w.heap.size wr (.slice (some ⟨b, off + kk.2.1, none⟩) (kk.2.2 - kk.2.1) (cap' - kk.2.1)) (seg x kk.2.1 kk.2.2) from by
            have hsl := seg_length (t := x) (a := kk.2.1) (b := kk.2.2) m2
            have h0 : 0 < x.length := by omega
            obtain ⟨a', c', he, hs1, hs2, hs3⟩ := HS.out.below hbel2
            have hv := HV.out h0
            rw [he] at hv
            obtain ⟨b', off', rfl, hlt, hL⟩ := hs3 h0
            cases hv
            refine ⟨_, _, by rw [hsl], by omega, by omega, fun _ => ⟨b, off + kk.2.1, rfl, hlt, hL.seg m2⟩⟩)
          have HLN2 := Lib.hid (show (toks f (ws.take q) ++ tokB x ((f x).take j)).length ≤ 1000000 from by
            have h1 := HLN.out
            have h2 := List.length_take_le j (f x)
            rw [List.length_append, tokB, List.length_map]
            omega)
          have HJ := Lib.hid hjl
          clear hcell hkk hown m1 m2 hbel2
          go_wp2_with (first | (at_builtin; go_loud (refine app_w rfl (.tmp 28) (.tmp 31) rfl rfl ((hT2.below ((Below.refl _ _).alloc (Nat.le_refl _) _)).below ((Below.refl _ _).alloc (Nat.le_refl _) _)) rfl (new_cell2 _ _ _ _) (HSL.out.below (((Below.refl _ _).alloc hT2.hB' _).alloc (by have := hT2.hB'; simp; omega) _)) HLN2.out ?_); intro v' w4 hT4 hot4; obtain ⟨va4, vn4, vc4, rfl⟩ := hT4.shape))
          have HT4 := Lib.hid (show _ ∧ _ from ⟨hT4, hoth.trans (((OthS.alloc _ _).trans (OthS.alloc _ _)).trans hot4)⟩)
          clear hT2 hT4 hot4 hoth
          go_roundg ((f x).length - (j + 1))
          case measure => have h1 := HK2.out; have h2 := HJ.out; omega
          case rel => exact ⟨j + 1, HJ.out, rfl, by go_num, by rw [HKT.out, ← List.append_assoc]; exact HT4.out.1, HT4.out.2⟩
        · have hj' : j = (f x).length := by omega
          have HT4 := Lib.hid hT2
          clear hT2 hoth
          subst hj'
          go_wp2
          go_roundg (ws.length - (q + 1))
          case measure => have h1 := HK.out; have h2 := HLT.out; omega
          case rel =>
            have := HT4.out
            rw [List.take_length] at this
            exact ⟨q + 1, HLT.out, rfl, by go_num, by rw [HTK.out]; exact this⟩
    · have hq' : q = ws.length := by omega
      have HT := Lib.hid hT
      subst hq'
      go_wp2
      go_ret
      have := HT.out
      rw [List.take_length] at this
      exact ⟨_, rfl, this⟩
end Go.Proofs.YtlglijnaeaonpaaGreatDoor.Css
