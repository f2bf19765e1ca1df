/- A piece: its kind, its name, the tokens of its value. -/
import Derived.Laws.Rows
import Derived.Test.YtlglijnaeaonpaaGreatDoorNr
set_option linter.all false
/- A piece: its kind, its name, the tokens of its value. -/
namespace Go.Proofs.YtlglijnaeaonpaaGreatDoor.Css
open Go.RowKit

/-- A list of texts in memory. -/
def WordsC (w : World) (v : Value) (ws : List (List UInt8)) : Prop :=
  ∃ a c, v = .slice a ws.length c ∧ ws.length ≤ c ∧ c ≤ maxLen ∧ (0 < ws.length → ∃ g o, a = some ⟨g, o, none⟩ ∧ ∀ i (h : i < ws.length), ∃ u, w.cell? ⟨g, o + i, none⟩ = some u ∧ Sl w u ws[i])
theorem OutW.words {B : Nat} {w0 w : World} {v : Value} {tl : List (List UInt8)} (h : OutW B w0 w v tl) : WordsC w v tl := by
  obtain ⟨cs, ho, hs, _⟩ := h
  have hl := ho.1
  rcases id ho.2 with ⟨h1, h2⟩ | ⟨g, off, cap, cur, h1, hB, hg, hsz, hc, hn, hm⟩
  · exact ⟨none, 0, by rw [h2]; exact h1, by omega, by unfold maxLen; omega, fun h => by omega⟩
  · refine ⟨_, cap, h1, hn, hm, fun h0 => ⟨g, off, rfl, fun i hi => ?_⟩⟩
    obtain ⟨u, hu⟩ : ∃ u, cs[i]? = some u := ⟨cs[i]'(by omega), List.getElem?_eq_getElem (by omega)⟩
    obtain ⟨_, hx⟩ := hs i u hu
    exact ⟨u, by rw [cell_at hg]; exact hc i u hu, hx.sl⟩
theorem WordsC.below {w w' : World} {v : Value} {ws : List (List UInt8)} (h : WordsC w v ws) (hb : Below w.heap.size w w') : WordsC w' v ws := by
  obtain ⟨a, c, h1, h2, h3, h4⟩ := h
  refine ⟨a, c, h1, h2, h3, fun h0 => ?_⟩
  obtain ⟨g, o, e, hc⟩ := h4 h0
  refine ⟨g, o, e, fun i hi => ?_⟩
  obtain ⟨u, hu1, hu2⟩ := hc i hi
  exact ⟨u, (hb.cell (p := ⟨g, o + i, none⟩) (World.block_lt_of_cell? w _ hu1)).trans hu1, hu2.below hb⟩

/-- Texts, a bar behind each. -/
def bars (tl : List (List UInt8)) : List UInt8 := tl.flatMap fun x => x ++ [124]
theorem bars_len (tl : List (List UInt8)) (h : ∀ x ∈ tl, x.length ≤ 60) : (bars tl).length ≤ 61 * tl.length := by
  induction tl with
  | nil => simp [bars]
  | cons x tl ih =>
    have h1 := h x (by simp)
    have h2 := ih fun y hy => h y (by simp [hy])
    simp only [bars, List.flatMap_cons, List.length_append, List.length_cons, List.length_nil] at h2 ⊢
    omega
/-- A piece's cells. -/
def pcs (kind : ByteArray) (nv tv : Value) : Array Value := #[.string kind, nv, tv, .slice none 0 0, .slice none 0 0, .string ⟨#[]⟩]
theorem Txt.set {B : Nat} {w0 w : World} {v : Value} {l : List UInt8} (h : Txt B w0 w v l) {g : Nat} {cs : Array Value} {t : TypeId} {f : Nat × Nat} (hg : w.heap[g]? = some (.cells cs t f)) (ht : t ≠ 5) (hB : B ≤ g) (i : Nat) (u : Value) : Txt B w0 (w.setCell ⟨g, i, none⟩ u) v l :=
  ⟨h.own.kept (row := some g) ⟨rfl, rfl, rfl, by simp, fun k hk hne => Below.heap_setCell _ _ _ _ (fun e => hne (by rw [e]))⟩ (by
    cases hv : v.ownBlock with
    | none => exact .inl rfl
    | some k =>
      refine .inr fun e => ?_
      obtain ⟨_, cur, hc⟩ := own_ty h.own k hv
      cases e
      exact ht (ty_eq hg hc)), h.bel.setCell hB u, h.hB⟩
theorem bars_snoc (ws : List (List UInt8)) (q : Nat) (h : q < ws.length) : bars (ws.take (q + 1)) = bars (ws.take q) ++ ws[q] ++ [124] := by
  rw [List.take_succ_eq_append_getElem h, bars, List.flatMap_append]; simp [bars]
theorem Txt.nil (w : World) : Txt w.heap.size w w (.slice none 0 0) [] := ⟨⟨rfl, .inl ⟨rfl, rfl⟩⟩, Below.refl _ _, Nat.le_refl _⟩
def set6 (w : World) (g : Nat) (a b c d e f : Value) : World :=
  (((((w.setCell ⟨g, 0, none⟩ a).setCell ⟨g, 1, none⟩ b).setCell ⟨g, 2, none⟩ c).setCell ⟨g, 3, none⟩ d).setCell ⟨g, 4, none⟩ e).setCell ⟨g, 5, none⟩ f
theorem Txt.set6 {B : Nat} {w0 w : World} {v : Value} {l : List UInt8} (h : Txt B w0 w v l) {g : Nat} {x0 x1 x2 x3 x4 x5 : Value} {t : TypeId} {fz : Nat × Nat} (hg : w.heap[g]? = some (.cells #[x0, x1, x2, x3, x4, x5] t fz)) (ht : t ≠ 5) (hB : B ≤ g)
    (a b c d e f : Value) : Txt B w0 (Css.set6 w g a b c d e f) v l ∧ (Css.set6 w g a b c d e f).heap[g]? = some (.cells #[a, b, c, d, e, f] t fz) := by
  have h1 := heap_set hg 0 a
  have h2 := heap_set h1 1 b
  have h3 := heap_set h2 2 c
  have h4 := heap_set h3 3 d
  have h5 := heap_set h4 4 e
  have h6 := heap_set h5 5 f
  exact ⟨(((((h.set hg ht hB 0 a).set h1 ht hB 1 b).set h2 ht hB 2 c).set h3 ht hB 3 d).set h4 ht hB 4 e).set h5 ht hB 5 f, h6⟩
/-- While a piece is made. -/
def PRel (w : World) (kind : ByteArray) (nv : Value) (wr : World) (tv : Value) (l : List UInt8) : Prop :=
  Txt w.heap.size w wr tv l ∧ wr.heap[w.heap.size + 1]? = some (.cells (pcs kind nv tv) 55 (0, 0)) ∧ wr.heap[w.heap.size]? = some (.cells (pcs ⟨#[]⟩ (.slice none 0 0) (.slice none 0 0)) 55 (0, 0))
def PPost (w : World) (kind : ByteArray) (nv : Value) (l : List UInt8) (e : Ending) (w' : World) : Prop :=
  ∃ tv, e = .returned (.agg #[.string kind, nv, tv, .slice none 0 0, .slice none 0 0, .string ⟨#[]⟩]) ∧ Txt w.heap.size w w' tv l

set_option maxRecDepth 100000 in
set_option maxHeartbeats 4000000 in
theorem part_any (w : World) (kind : ByteArray) (nv v : Value) (ws : List (List UInt8)) (hnv : ∃ a n c, nv = .slice a n c) (h : WordsC w v ws) (hx : ∀ x ∈ ws, 0 < x.length ∧ x.length ≤ 60) (hlen : ws.length ≤ 1000) :
    Calls Tryz.prog 27 #[.string kind, nv, v] w (PPost w kind nv (bars ws)) := by
  obtain ⟨na, nn, nc, rfl⟩ := hnv
  have HW := Lib.hid h
  obtain ⟨a, c, rfl, hc1, hc2, hpos⟩ := id h
  unfold maxLen at hc2
  clear h
  have HP := Lib.hid hpos
  have HX := Lib.hid hx
  clear hpos hx
  go_enter Tryz.func27, Tryz.ntmps27
  go_wp2
  have hst : PRel w kind (.slice na nn nc) ((w.alloc (.cells (pcs ⟨#[]⟩ (.slice none 0 0) (.slice none 0 0)) 55)).alloc (.cells (pcs kind (.slice na nn nc) (.slice none 0 0)) 55)) (.slice none 0 0) (bars (ws.take 0)) := by
    refine ⟨((Txt.nil w).alloc _).alloc _, ?_, ?_⟩
    · have := alloc_new (w.alloc (.cells (pcs ⟨#[]⟩ (.slice none 0 0) (.slice none 0 0)) 55)) (.cells (pcs kind (.slice na nn nc) (.slice none 0 0)) 55)
      rwa [show (w.alloc (.cells (pcs ⟨#[]⟩ (.slice none 0 0) (.slice none 0 0)) 55)).heap.size = w.heap.size + 1 from by simp] at this
    · rw [Below.heap_alloc _ _ _ (by simp)]; exact alloc_new _ _
  go_loopg [15] ws.length (fun k i wr => ∃ q tv, q ≤ ws.length ∧ k = ws.length - q ∧ i = .int .i64 q ∧ PRel w kind (.slice na nn nc) wr tv (bars (ws.take q)))
  case atStart => exact ⟨0, _, Nat.zero_le _, rfl, rfl, hst⟩
  case round =>
    clear hst
    obtain ⟨q, tv, hq, hk, rfl, hT, hp, hz⟩ := hrel
    have HK := Lib.hid hk
    clear hk
    obtain ⟨va, vn, vc, rfl⟩ := hT.shape
    by_cases hlt : q < ws.length
    · obtain ⟨g, o, rfl, hcell⟩ := HP.out (by omega)
      obtain ⟨x, hxe⟩ : ∃ x, x = ws[q] := ⟨_, rfl⟩
      obtain ⟨u, hu1, hu2⟩ := hcell q hlt
      obtain ⟨hx1, hx2⟩ := HX.out ws[q] (List.getElem_mem hlt)
      rw [← hxe] at hu2 hx1 hx2
      have HLT := Lib.hid hlt
      have HTK := Lib.hid (show bars (ws.take (q + 1)) = bars (ws.take q) ++ x ++ [124] from by rw [bars_snoc ws q hlt, ← hxe])
      have HLN := Lib.hid (show (bars (ws.take q)).length ≤ 61000 from by
        have h1 := bars_len (ws.take q) fun y hy => (HX.out y (take_mem hy)).2
        have h3 : (ws.take q).length ≤ 1000 := Nat.le_trans (List.length_take_le' q ws) hlen
        omega)
      have k0 : wr.cell? ⟨g, o + q, none⟩ = some u := (hT.bel.cell (p := ⟨g, o + q, none⟩) (World.block_lt_of_cell? w _ hu1)).trans hu1
      have c2 : wr.cell? ⟨w.heap.size + 1, 2, none⟩ = some (.slice va vn vc) := by rw [cell_at hp]; rfl
      obtain ⟨ua, uc, rfl, hu3, hu4, hup⟩ := hu2
      obtain ⟨b, off, rfl, hL⟩ := hup hx1
      have HL := Lib.hid hL
      have HPZ := Lib.hid (show _ ∧ _ from ⟨hp, hz⟩)
      clear hu1 hup hL hxe hcell hp hz
      go_wp2_with (first | (at_builtin; refine app_slice rfl (.tmp 20) (.tmp 21) rfl rfl hT rfl rfl (HL.out.below (HL.out.lt hx1) hT.bel) (by have := HLN.out; omega) ?_; intro v' w4 hT4 hot4; obtain ⟨va4, vn4, vc4, rfl⟩ := hT4.shape) | (at_builtin; refine app_slice rfl (.tmp 22) (.tmp 23) rfl rfl (hT4.alloc _) rfl rfl (new1 _ 124 _ rfl) (by have := HLN.out; simp only [List.length_append, List.length_cons, List.length_nil]; omega) ?_; intro v' w5 hT5 hot5; obtain ⟨va5, vn5, vc5, rfl⟩ := hT5.shape; have hot := hot4.trans ((Oth.alloc _ _).trans hot5); have hp5 := hot _ _ _ _ HPZ.out.1 (by decide); have hz5 := hot _ _ _ _ HPZ.out.2 (by decide); have c25 : w5.cell? ⟨w.heap.size + 1, 2, none⟩ = some (.slice va vn vc) := (by rw [cell_at hp5]; rfl); have f25 := frozen_at hp5 2))
      have HT5 := Lib.hid (show PRel w kind (.slice na nn nc) (w5.setCell ⟨w.heap.size + 1, 2, none⟩ (.slice va5 vn5 vc5)) (.slice va5 vn5 vc5) (bars (ws.take q) ++ x ++ [124]) from
        ⟨hT5.set hp5 (by decide) (Nat.le_succ _) _ _, by rw [heap_set hp5]; rfl, by rw [Below.heap_setCell _ _ _ _ (by show w.heap.size ≠ w.heap.size + 1; omega)]; exact hz5⟩)
      clear hT hT4 hT5 hot4 hot5 hot hp5 hz5 c2 c25 f25
      go_roundg (ws.length - (q + 1))
      case measure => have h1 := HK.out; have h2 := HLT.out; omega
      case rel => exact ⟨q + 1, _, HLT.out, rfl, by go_num, by rw [HTK.out]; exact HT5.out⟩
    · have hq' : q = ws.length := by omega
      have HT := Lib.hid hT
      have c0 : wr.cell? ⟨w.heap.size + 1, 0, none⟩ = some (.string kind) := by rw [cell_at hp]; rfl
      have c1 : wr.cell? ⟨w.heap.size + 1, 1, none⟩ = some (.slice na nn nc) := by rw [cell_at hp]; rfl
      have c2 : wr.cell? ⟨w.heap.size + 1, 2, none⟩ = some (.slice va vn vc) := by rw [cell_at hp]; rfl
      have c3 : wr.cell? ⟨w.heap.size + 1, 3, none⟩ = some (.slice none 0 0) := by rw [cell_at hp]; rfl
      have c4 : wr.cell? ⟨w.heap.size + 1, 4, none⟩ = some (.slice none 0 0) := by rw [cell_at hp]; rfl
      have c5 : wr.cell? ⟨w.heap.size + 1, 5, none⟩ = some (.string ⟨#[]⟩) := by rw [cell_at hp]; rfl
      have z0 : wr.cell? ⟨w.heap.size, 0, none⟩ = some (.string ⟨#[]⟩) := by rw [cell_at hz]; rfl
      have z1 : wr.cell? ⟨w.heap.size, 1, none⟩ = some (.slice none 0 0) := by rw [cell_at hz]; rfl
      have z2 : wr.cell? ⟨w.heap.size, 2, none⟩ = some (.slice none 0 0) := by rw [cell_at hz]; rfl
      have z3 : wr.cell? ⟨w.heap.size, 3, none⟩ = some (.slice none 0 0) := by rw [cell_at hz]; rfl
      have z4 : wr.cell? ⟨w.heap.size, 4, none⟩ = some (.slice none 0 0) := by rw [cell_at hz]; rfl
      have z5 : wr.cell? ⟨w.heap.size, 5, none⟩ = some (.string ⟨#[]⟩) := by rw [cell_at hz]; rfl
      have ff := frozen_at hz
      have HZ := Lib.hid hz
      clear hp hz
      subst hq'
      go_wp2
      obtain ⟨r1, r2⟩ := HT.out.set6 HZ.out (by decide) (Nat.le_refl _) (.string kind) (.slice na nn nc) (.slice va vn vc) (.slice none 0 0) (.slice none 0 0) (.string ⟨#[]⟩)
      rw [List.take_length] at r1
      refine bodyPost_ret (results_cell_row (P := Tryz.prog) rfl _ _ w.heap.size 55 _ (0, 0) _ rfl r2 Tryz.underlying55 rfl (by kernel_rfl)) rfl ?_
      exact ⟨_, rfl, r1⟩
end Go.Proofs.YtlglijnaeaonpaaGreatDoor.Css
/- The pieces of declarations. -/
namespace Go.Proofs.YtlglijnaeaonpaaGreatDoor.Css
open Go.RowKit

theorem toks_fit {f : List UInt8 → List (Int × Nat × Nat)} {ws : List (List UInt8)} (h : ∀ x ∈ ws, Fine x (f x)) : ∀ y ∈ toks f ws, 0 < y.length ∧ y.length ≤ 60 := by
  intro y hy
  obtain ⟨x, hx, hy⟩ := List.mem_flatMap.1 hy
  obtain ⟨k, hk, rfl⟩ := List.mem_map.1 hy
  have hf := h x hx
  obtain ⟨m1, m2⟩ := hf.good.1.mem k hk
  have := hf.le
  rw [seg_length m2]
  omega

/-- Bytes that no growth of a row of pieces touches. -/
def Slp (B : Nat) (w : World) (v : Value) (l : List UInt8) : Prop := ∃ a cap, v = .slice a l.length cap ∧ (0 < l.length → ∃ b off, a = some ⟨b, off, none⟩ ∧ Lies w b off l ∧ (b < B ∨ ∃ cur f, w.heap[b]? = some (.cells cur 5 f)))
theorem Slp.slb {B : Nat} {w : World} {v : Value} {l : List UInt8} (h : Slp B w v l) : Slb w v l := by
  obtain ⟨a, cap, h1, h4⟩ := h
  refine ⟨a, cap, h1, fun h0 => ?_⟩
  obtain ⟨b, off, rfl, hL, _⟩ := h4 h0
  exact ⟨b, off, rfl, hL⟩
theorem Lies.at_ {w w' : World} {b off : Nat} {l : List UInt8} (h : Lies w b off l) (hb : w'.heap[b]? = w.heap[b]?) : Lies w' b off l := fun i hi => by
  rw [World.cell?_of_block (w := w) hb]; exact h i hi
theorem Slp.keep {B : Nat} {w w' : World} {v : Value} {l : List UInt8} (h : Slp B w v l) (h1 : ∀ k : Nat, k < w.heap.size → k < B → w'.heap[k]? = w.heap[k]?) (h2 : ∀ (k : Nat) (cur : Array Value) (f : Nat × Nat), w.heap[k]? = some (Obj.cells cur 5 f) → w'.heap[k]? = some (Obj.cells cur 5 f)) : Slp B w' v l := by
  obtain ⟨a, cap, e, h4⟩ := h
  refine ⟨a, cap, e, fun h0 => ?_⟩
  obtain ⟨b, off, rfl, hL, hb⟩ := h4 h0
  have hlt := hL.lt h0
  rcases hb with hb | ⟨cur, f, hb⟩
  · exact ⟨b, off, rfl, hL.at_ (h1 b hlt hb), .inl hb⟩
  · exact ⟨b, off, rfl, hL.at_ ((h2 b cur f hb).trans hb.symm), .inr ⟨cur, f, h2 b cur f hb⟩⟩
theorem Slp.below {B : Nat} {w w' : World} {v : Value} {l : List UInt8} (h : Slp B w v l) (hb : Below w.heap.size w w') : Slp B w' v l :=
  h.keep (fun k hk _ => hb.block k hk) (fun k cur f hk => by rw [hb.block k (Array.getElem?_eq_some_iff.1 hk).1]; exact hk)
theorem Sl.slp {B : Nat} {w : World} {v : Value} {l : List UInt8} (h : Sl w v l) (hB : w.heap.size ≤ B) : Slp B w v l := by
  obtain ⟨a, cap, h1, h2, h3, h4⟩ := h
  refine ⟨a, cap, h1, fun h0 => ?_⟩
  obtain ⟨b, off, rfl, hL⟩ := h4 h0
  exact ⟨b, off, rfl, hL, .inl (Nat.lt_of_lt_of_le (hL.lt h0) hB)⟩
theorem Txt.slp {B B' : Nat} {w0 w : World} {v : Value} {l : List UInt8} (h : Txt B w0 w v l) : Slp B' w v l := by
  rcases h.own.2 with ⟨h1, h2⟩ | ⟨g, cap, cur, h1, hB, hg, hn, hm, hs, hc⟩
  · exact ⟨none, 0, by rw [h1, h2], fun h0 => by omega⟩
  · refine ⟨_, cap, h1, fun h0 => ⟨g, 0, rfl, fun i hi => ?_, .inr ⟨cur, _, hg⟩⟩⟩
    rw [Nat.zero_add, cell_at hg]
    rw [Nat.mul_one] at hc
    have h5 : (cur.toList.take l.length)[i]? = (cellsOf l)[i]? := by rw [hc]
    rw [List.getElem?_take_of_lt hi, Array.getElem?_toList] at h5
    rw [h5]
    exact cellsOf_get l i hi

def dkind : ByteArray := ⟨#[100, 101, 99, 108, 97, 114, 97, 116, 105, 111, 110]⟩
/-- Pieces in memory: a kind, a name, a text each. -/
def Pcs (B : Nat) (w0 w : World) (v : Value) (ps : List (ByteArray × List UInt8 × List UInt8)) : Prop :=
  ∃ cs, Own w B 55 6 v ps.length cs ∧ (∀ i (h : i < ps.length), ∃ nv tv, (∀ j u, (pcs ps[i].1 nv tv).toList[j]? = some u → cs[i * 6 + j]? = some u) ∧ Slp B w nv ps[i].2.1 ∧ Slp B w tv ps[i].2.2) ∧ Below B w0 w ∧ B ≤ w0.heap.size
theorem Pcs.shape {B : Nat} {w0 w : World} {v : Value} {ps : List (ByteArray × List UInt8 × List UInt8)} (h : Pcs B w0 w v ps) : ∃ a n c, v = .slice a n c := by
  obtain ⟨cs, ho, _⟩ := h
  rcases ho.2 with ⟨h1, h2⟩ | ⟨g, off, cap, cur, h1, _⟩
  · exact ⟨_, _, _, h1⟩
  · exact ⟨_, _, _, h1⟩
theorem Pcs.hB' {B : Nat} {w0 w : World} {v : Value} {ps : List (ByteArray × List UInt8 × List UInt8)} (h : Pcs B w0 w v ps) : B ≤ w.heap.size := by
  obtain ⟨cs, _, _, h1, h2⟩ := h
  exact Nat.le_trans h2 h1.size
theorem Pcs.bel {B : Nat} {w0 w : World} {v : Value} {ps : List (ByteArray × List UInt8 × List UInt8)} (h : Pcs B w0 w v ps) : Below B w0 w := by
  obtain ⟨cs, _, _, h1, h2⟩ := h
  exact h1
theorem Pcs.below {B : Nat} {w0 w w' : World} {v : Value} {ps : List (ByteArray × List UInt8 × List UInt8)} (h : Pcs B w0 w v ps) (hb : Below w.heap.size w w') : Pcs B w0 w' v ps := by
  have hB := h.hB'
  obtain ⟨cs, ho, hs, h1, h2⟩ := h
  refine ⟨cs, ho.keep fun k hk => hb.block k (ho.lt k hk).2.1, fun i hi => ?_, h1.trans (hb.mono hB), h2⟩
  obtain ⟨nv, tv, a, b, c⟩ := hs i hi
  exact ⟨nv, tv, a, b.below hb, c.below hb⟩
theorem Pcs.start (w0 : World) : Pcs w0.heap.size w0 (w0.alloc (.cells #[] 55)) (.slice (some ⟨w0.heap.size, 0, none⟩) 0 0) [] :=
  ⟨[], ⟨rfl, .inr ⟨w0.heap.size, 0, 0, #[], rfl, Nat.le_refl _, alloc_new _ _, by simp, fun j u hj => by simp at hj, Nat.le_refl _, by unfold maxLen; omega⟩⟩, fun i hi => absurd hi (by simp), (Below.refl _ _).alloc (Nat.le_refl _) _, Nat.le_refl _⟩
/-- What is no row of pieces stays. -/
def OthP (B : Nat) (w w' : World) : Prop := Below B w w' ∧ ∀ (k : Nat) (cs : Array Value) (t : TypeId) (f : Nat × Nat), w.heap[k]? = some (Obj.cells cs t f) → t ≠ 55 → w'.heap[k]? = some (Obj.cells cs t f)
/-- A piece is appended. -/
theorem wp_p {w : World} {o : Oper} {a : Act} {K0 : Act → World → Prop} {Q : Exit → Act → World → Prop} (s x : Operand)
    (hop : o.op = .call { callee := .builtin .append, args := #[s, x], argTypes := #[26, 26] }) {B : Nat} {w0 : World} {v : Value} {ps : List (ByteArray × List UInt8 × List UInt8)} (hs : a.eval s = v) (hT : Pcs B w0 w v ps)
    {g c : Nat} {kd : ByteArray} {nv tv : Value} {nm tx : List UInt8} (hx : a.eval x = .slice (some ⟨g, 0, none⟩) 1 c) (hu : w.heap[g]? = some (.cells (pcs kd nv tv) 55 (0, 0))) (hn : Slp B w nv nm) (ht : Slp B w tv tx) (hlen : ps.length ≤ 1000000)
    (K : ∀ v' w', Pcs B w0 w' v' (ps ++ [(kd, nm, tx)]) → OthP B w w' → K0 (a.put o.dst v') w') : o.wp Tryz.prog a w K0 Q := by
  obtain ⟨i0, hi, hz0, hz1, hz2⟩ := info_parts info55
  have hB := hT.hB'
  obtain ⟨cs, ho, hcs, h1, h2⟩ := hT
  have hnv : nv.oneCell' = true := by obtain ⟨_, _, rfl, _⟩ := hn; rfl
  have htv : tv.oneCell' = true := by obtain ⟨_, _, rfl, _⟩ := ht; rfl
  obtain ⟨v', w', hrun, r1, r2⟩ := run_append_Own (P := Tryz.prog) w B 26 o.type 55 i0 (.agg #[.string ⟨#[]⟩, .slice none 0 0, .slice none 0 0, .slice none 0 0, .slice none 0 0, .string ⟨#[]⟩]) 6 128 Tryz.underlying26 hi hz0 hz1 hz2 rfl (by decide) v ps.length cs ho ⟨g, 0, none⟩ 1 c (pcs kd nv tv).toList rfl (by
    intro j z hj
    rw [show (⟨g, 0, none⟩ : Addr).add j = ⟨g, j, none⟩ by unfold Addr.add; split <;> simp_all, cell_at hu]
    simpa using hj) (by
    intro z hz
    simp only [pcs, List.mem_cons, List.not_mem_nil, or_false] at hz
    rcases hz with rfl | rfl | rfl | rfl | rfl | rfl <;> first | rfl | assumption) (by unfold maxLen; omega) (by omega) hB
  unfold Oper.wp
  simp [execOp, hop, resolve, invoke, builtin, hs, hx, hrun, Result.andThen]
  refine K v' w' ?_ ?_
  rotate_left
  · exact ⟨(Below.refl _ _).grown r2 hB (fun k hk => (ho.lt k hk).1), fun k cs' t f hk ht => by
      rw [r2.block k (Array.getElem?_eq_some_iff.1 hk).1 (fun e => by obtain ⟨_, _, cur', hc⟩ := ho.lt k e.symm; exact ht (ty_eq hk hc))]
      exact hk⟩
  · have hbw : Below B w w' := (Below.refl _ _).grown r2 hB (fun k hk => (ho.lt k hk).1)
    have hcl : cs.length = ps.length * 6 := ho.1
    have hk5 : ∀ (k : Nat) (cur : Array Value) (f : Nat × Nat), w.heap[k]? = some (Obj.cells cur 5 f) → w'.heap[k]? = some (Obj.cells cur 5 f) := fun k cur f hk => by
      rw [r2.block k (Array.getElem?_eq_some_iff.1 hk).1 (fun e => ?_)]
      · exact hk
      · obtain ⟨_, _, cur', hc⟩ := ho.lt k e.symm
        exact absurd (ty_eq hk hc) (by decide)
    refine ⟨cs ++ (pcs kd nv tv).toList, by rw [List.length_append]; exact r1, fun i hi => ?_, h1.trans hbw, h2⟩
    rcases Nat.lt_or_ge i ps.length with hlt | hge
    · obtain ⟨nv', tv', a1, a2, a3⟩ := hcs i hlt
      rw [List.getElem_append_left hlt]
      refine ⟨nv', tv', fun j u hj => ?_, a2.keep (fun k _ hk => hbw.block k hk) hk5, a3.keep (fun k _ hk => hbw.block k hk) hk5⟩
      have hj6 : j < 6 := (List.getElem?_eq_some_iff.1 hj).1
      rw [List.getElem?_append_left (by omega)]
      exact a1 j u hj
    · have e : i = ps.length := by rw [List.length_append, List.length_singleton] at hi; omega
      subst e
      rw [List.getElem_append_right (Nat.le_refl _)]
      simp only [Nat.sub_self, List.getElem_cons_zero]
      refine ⟨nv, tv, fun j u hj => ?_, hn.keep (fun k _ hk => hbw.block k hk) hk5, ht.keep (fun k _ hk => hbw.block k hk) hk5⟩
      rw [List.getElem?_append_right (by omega), hcl, Nat.add_sub_cancel_left]
      exact hj

theorem step_p {w : World} {ops : Array Oper} {o : Oper} {a : Act} {K0 : Act → World → Prop} {Q : Exit → Act → World → Prop} {E : Prop} (hgd : o.guard = none) (s x : Operand)
    (hop : o.op = .call { callee := .builtin .append, args := #[s, x], argTypes := #[26, 26] }) {B : Nat} {w0 : World} {v : Value} {ps : List (ByteArray × List UInt8 × List UInt8)} (hs : a.eval s = v) (hT : Pcs B w0 w v ps)
    {g c : Nat} {kd : ByteArray} {nv tv : Value} {nm tx : List UInt8} (hx : a.eval x = .slice (some ⟨g, 0, none⟩) 1 c) (hu : w.heap[g]? = some (.cells (pcs kd nv tv) 55 (0, 0))) (hn : Slp B w nv nm) (ht : Slp B w tv tx) (hlen : ps.length ≤ 1000000)
    (K : ∀ v' w', Pcs B w0 w' v' (ps ++ [(kd, nm, tx)]) → OthP B w w' → K0 (a.put o.dst v') w') : if Region.wanted o (yielded ops a.tmps) = true then Oper.wp Tryz.prog o a w K0 Q else E := by
  have hw : Region.wanted o (yielded ops a.tmps) = true := by simp [Region.wanted, hgd]
  rw [if_pos hw]
  exact wp_p s x hop hs hT hx hu hn ht hlen K

theorem app_p {w : World} {ops : Array Oper} {rest : List Oper} {o : Oper} {a : Act} {Q : Exit → Act → World → Prop} (hg : o.guard = none) (s x : Operand)
    (hop : o.op = .call { callee := .builtin .append, args := #[s, x], argTypes := #[26, 26] }) {B : Nat} {w0 : World} {v : Value} {ps : List (ByteArray × List UInt8 × List UInt8)} (hs : a.eval s = v) (hT : Pcs B w0 w v ps)
    {g c : Nat} {kd : ByteArray} {nv tv : Value} {nm tx : List UInt8} (hx : a.eval x = .slice (some ⟨g, 0, none⟩) 1 c) (hu : w.heap[g]? = some (.cells (pcs kd nv tv) 55 (0, 0))) (hn : Slp B w nv nm) (ht : Slp B w tv tx) (hlen : ps.length ≤ 1000000)
    (K : ∀ v' w', Pcs B w0 w' v' (ps ++ [(kd, nm, tx)]) → OthP B w w' → wpList Tryz.prog ops Q rest (a.put o.dst v') w') : wpList Tryz.prog ops Q (o :: rest) a w :=
  wpList_plain hg fun _ hK => wp_p s x hop hs hT hx hu hn ht hlen fun v' w' h1 h2 => hK _ _ (K v' w' h1 h2)

/-- A declaration's piece. -/
def pieceOf (f : List UInt8 → List (Int × Nat × Nat)) (d : List UInt8 × List (List UInt8)) : ByteArray × List UInt8 × List UInt8 := (dkind, d.1, bars (toks f d.2))
def PcsPost (w : World) (ps : List (ByteArray × List UInt8 × List UInt8)) (e : Ending) (w' : World) : Prop := ∃ v, e = .returned v ∧ Pcs w.heap.size w w' v ps

set_option maxRecDepth 100000 in
set_option maxHeartbeats 4000000 in
theorem declPieces_any (w : World) (v : Value) (ds : List (List UInt8 × List (List UInt8))) (f : List UInt8 → List (Int × Nat × Nat)) (h : DeclsMem w v ds) (hU : Utab w) (hx : ∀ d ∈ ds, (∀ x ∈ d.2, Fine x (f x)) ∧ d.2.length ≤ 8) (hlen : ds.length ≤ 10) :
    Calls Tryz.prog 13 #[v] w (PcsPost w (ds.map (pieceOf f))) := by
  obtain ⟨a, c, rfl, hc1, hc2, hpos⟩ := h
  have hst := Pcs.start w
  rcases Nat.eq_zero_or_pos ds.length with h0 | h0
  · rw [h0, List.eq_nil_of_length_eq_zero h0]
    clear hpos h0 hc1 hlen hx hU
    go_enter Tryz.func13, Tryz.ntmps13
    go_wp2
    refine wp_loop_once fun _ => ?_
    go_wp2
    go_ret
    exact ⟨_, rfl, hst⟩
  obtain ⟨g, o, rfl, hcell⟩ := hpos h0
  have HC := Lib.hid hcell
  have HX := Lib.hid hx
  have HU := Lib.hid hU
  clear hpos hcell hx hU
  go_enter Tryz.func13, Tryz.ntmps13
  go_wp2
  go_loopg [3, 9] ds.length (fun k v3 i wr => ∃ q, q ≤ ds.length ∧ k = ds.length - q ∧ i = .int .i64 q ∧ Pcs w.heap.size w wr v3 ((ds.take q).map (pieceOf f)))
  case atStart => exact ⟨0, Nat.zero_le _, rfl, rfl, hst⟩
  case round =>
    clear hst
    obtain ⟨q, hq, hk, rfl, hT⟩ := hrel
    have HK := Lib.hid hk
    clear hk
    obtain ⟨va, vn, vc, rfl⟩ := hT.shape
    by_cases hlt : q < ds.length
    · obtain ⟨d, hde⟩ : ∃ d, d = ds[q] := ⟨_, rfl⟩
      obtain ⟨nv, xv, hu1, hu2, hs1, hs2⟩ := HC.out q hlt
      have hfine := HX.out ds[q] (List.getElem_mem hlt)
      rw [← hde] at hs1 hs2 hfine
      have HLT := Lib.hid hlt
      have HTK := Lib.hid (show (ds.take (q + 1)).map (pieceOf f) = (ds.take q).map (pieceOf f) ++ [pieceOf f d] from by
        rw [List.take_succ_eq_append_getElem hlt, List.map_append, ← hde]; rfl)
      have HLN := Lib.hid (show ((ds.take q).map (pieceOf f)).length ≤ 1000000 from by
        rw [List.length_map, List.length_take]; omega)
      have k0 : wr.cell? ⟨g, o + q * 2, none⟩ = some nv := (hT.bel.cell (p := ⟨g, o + q * 2, none⟩) (World.block_lt_of_cell? w _ hu1)).trans hu1
      have k1 : wr.cell? ⟨g, o + q * 2 + 1, none⟩ = some xv := (hT.bel.cell (p := ⟨g, o + q * 2 + 1, none⟩) (World.block_lt_of_cell? w _ hu2)).trans hu2
      obtain ⟨na, nc, rfl, _, _, _⟩ := id hs1
      obtain ⟨xa, xc, rfl, _, _, _⟩ := id hs2
      have HS := Lib.hid (show _ ∧ _ ∧ _ from ⟨hs1, hs2, hfine⟩)
      clear hu1 hu2 hs1 hs2 hde hfine
      go_upto_region 4 with fail
      go_cut [5] (fun s wx => ∃ tg, s = .pointer (some ⟨tg, 0, none⟩) ∧ wx.cell? ⟨tg, 0, none⟩ = some (.slice na d.1.length nc) ∧ wx.cell? ⟨tg, 1, none⟩ = some (.slice xa d.2.length xc) ∧ Below wr.heap.size wr wx)
      case first =>
        have hb := (Below.refl wr.heap.size wr).alloc (Nat.le_refl _)
        go_wp2_with fail
        go_meet
        exact ⟨_, rfl, by rw [World.cell?_alloc_new]; rfl, by rw [World.cell?_alloc_new]; rfl, hb _⟩
      case rest =>
      clear k0 k1
      obtain ⟨tg, rfl, c0, c1, hbx⟩ := hcut
      have hT1 := hT.below hbx
      clear hT hbx
      have htg := World.block_lt_of_cell? wc _ c0
      have hT2 := hT1.below (w' := wc.drew) ⟨rfl, rfl, rfl, Nat.le_refl _, fun _ _ => rfl⟩
      have htk := toks_any wc.drew _ d.2 f ((HS.out.2.1.below hT2.bel)) (HU.out.below HU.out.lt hT2.bel) HS.out.2.2.1 HS.out.2.2.2
      have HT2 := Lib.hid hT2
      clear hT2 hT1
      go_upto_region 5 with fail
      go_region_law (first | (go_simp; go_at_call 28; ((with_reducible refine htk.mono ?_); rintro e w3 ⟨tv, rfl, hOW⟩; have hprt := part_any w3 ⟨#[100, 101, 99, 108, 97, 114, 97, 116, 105, 111, 110]⟩ (.slice na d.1.length nc) tv (toks f d.2) ⟨_, _, _, rfl⟩ hOW.words (toks_fit HS.out.2.2.1) (by have h1 := toks_len HS.out.2.2.1; have h2 := HS.out.2.2.2; omega); have hbx : Below wc.drew.heap.size wc.drew w3 := (by obtain ⟨_, _, _, h, _⟩ := hOW; exact h); have c03 := (hbx.cell (p := ⟨tg, 0, none⟩) htg).trans c0; have hT3 := HT2.out.below hbx; obtain ⟨_, _, _, rfl⟩ := hOW.shape; clear hOW htk hbx)) | (go_simp; go_at_call 27; ((with_reducible refine hprt.mono ?_); rintro e w4 ⟨xv, rfl, hTX⟩; obtain ⟨_, _, _, rfl⟩ := hTX.shape; have hT4 := hT3.below hTX.bel; clear hprt hT3)) | (refine step_p rfl (.tmp 13) (.tmp 20) rfl rfl (hT4.below ((Below.refl _ _).alloc (Nat.le_refl _) _)) rfl (alloc_new _ _) ((HS.out.1.slp (Nat.le_refl _)).below (hT4.bel.alloc hT4.hB' _)) ((hTX.alloc _).slp) HLN.out ?_; intro v' w5 hT5 _; obtain ⟨va5, vn5, vc5, rfl⟩ := hT5.shape; have HT5 := Lib.hid hT5; clear hT5 hT4 hTX))
      all_goals go_wp2_with fail
      all_goals go_roundg (ds.length - (q + 1))
      all_goals first
        | (have h1 := HK.out; have h2 := HLT.out; omega)
        | exact ⟨q + 1, HLT.out, rfl, by go_num, by rw [HTK.out]; exact HT5.out⟩
    · have hq' : q = ds.length := by omega
      have HT := Lib.hid hT
      subst hq'
      go_wp2
      go_ret
      have := HT.out
      rw [List.take_length] at this
      exact ⟨_, rfl, this⟩
end Go.Proofs.YtlglijnaeaonpaaGreatDoor.Css
/- Whether pieces are others. -/
namespace Go.Proofs.YtlglijnaeaonpaaGreatDoor.Css
open Go.RowKit

def strL (l : List UInt8) : ByteArray := ⟨l.toArray⟩
theorem conv_slb {w : World} {v : Value} {l : List UInt8} (h : Slb w v l) : (convert 24 9 v).run Tryz.prog w = .ok (.string (strL l)) w := by
  obtain ⟨a, cap, rfl, hp⟩ := h
  rcases Nat.eq_zero_or_pos l.length with h0 | h0
  · obtain rfl := List.eq_nil_of_length_eq_zero h0
    have e : ∀ a, (convert 24 9 (.slice a 0 cap)).run Tryz.prog w = .ok (.string ⟨#[]⟩) w := fun a => by
      cases a with
      | none => kernel_rfl
      | some a =>
        have hl : (loadCells a 0).run Tryz.prog w = .ok #[] w := by
          have := run_loadCells_list (P := Tryz.prog) w a [] (fun j v hj => by simp at hj)
          simpa using this
        rw [run_convert_bytes_string w 24 9 5 _ 0 cap Tryz.underlying24 Tryz.underlying5 Tryz.underlying9, run_bytesToString w _ 0 cap [] (by simpa using hl)]
        rfl
    exact e a
  · obtain ⟨b, off, rfl, hL⟩ := hp h0
    have := run_convert_bytes_arg (P := Tryz.prog) w 24 5 Tryz.underlying24 Tryz.underlying5 b off l.length cap (l.map fun x => (x.toNat : Int)) (by simp) (by
      intro i hi
      have := hL i hi
      rw [this]
      simp [byte, List.getD_eq_getElem?_getD, List.getElem?_eq_getElem hi]) 9 Tryz.underlying9
    rw [this, show strOfNums (l.map fun x => (x.toNat : Int)) = strL l from by
      have e : l.map ((fun n : Int => UInt8.ofNat n.toNat) ∘ fun x => (x.toNat : Int)) = l := (List.map_congr_left (fun x _ => by simp)).trans (List.map_id l)
      simp only [strOfNums, strL, List.map_map, e]]
theorem same_any (w : World) (va vb : Value) (l : List UInt8) (ha : Slb w va l) (hb : Slb w vb l) : Calls Tryz.prog 25 #[va, vb] w fun e w' => e = .returned (.bool true) ∧ w' = w := by
  have h1 := conv_slb ha
  have h2 := conv_slb hb
  obtain ⟨_, _, rfl, _⟩ := ha
  obtain ⟨_, _, rfl, _⟩ := hb
  go_enter Tryz.func25, Tryz.ntmps25
  go_wp2
  go_ret
  exact ⟨rfl, rfl⟩
def endB (k : ByteArray) : Bool := k.toList == [101, 110, 100] || k.toList == [101, 110, 100, 32, 97, 116]
theorem isEnd_any (w : World) (k : ByteArray) : Calls Tryz.prog 26 #[.string k] w fun e w' => e = .returned (.bool (endB k)) ∧ w' = w := by
  cases h1 : (k.toList == [101, 110, 100]) with
  | true =>
    have H := Lib.hid (show endB k = true from by rw [endB, h1]; rfl)
    go_enter Tryz.func26, Tryz.ntmps26
    go_wp2
    go_ret
    exact ⟨by rw [H.out]; rfl, rfl⟩
  | false =>
    cases h2 : (k.toList == [101, 110, 100, 32, 97, 116])
    · have H := Lib.hid (show endB k = false from by rw [endB, h1, h2]; rfl)
      go_enter Tryz.func26, Tryz.ntmps26
      go_wp2
      go_ret
      exact ⟨by rw [H.out]; rfl, rfl⟩
    · have H := Lib.hid (show endB k = true from by rw [endB, h1, h2]; rfl)
      go_enter Tryz.func26, Tryz.ntmps26
      go_wp2
      go_ret
      exact ⟨by rw [H.out]; rfl, rfl⟩

/-- Pieces in memory. -/
def PcM (w : World) (v : Value) (ps : List (ByteArray × List UInt8 × List UInt8)) : Prop :=
  ∃ a c, v = .slice a ps.length c ∧ ps.length ≤ c ∧ c ≤ maxLen ∧ (0 < ps.length → ∃ g o, a = some ⟨g, o, none⟩ ∧ ∀ i (h : i < ps.length), ∃ nv tv, (∀ j u, (pcs ps[i].1 nv tv).toList[j]? = some u → w.cell? ⟨g, o + i * 6 + j, none⟩ = some u) ∧ Slb w nv ps[i].2.1 ∧ Slb w tv ps[i].2.2)
theorem Pcs.mem {B : Nat} {w0 w : World} {v : Value} {ps : List (ByteArray × List UInt8 × List UInt8)} (h : Pcs B w0 w v ps) : PcM w v ps := by
  obtain ⟨cs, ho, hs, _⟩ := h
  rcases id ho.2 with ⟨h1, h2⟩ | ⟨g, off, cap, cur, h1, hB, hg, hsz, hc, hn, hm⟩
  · exact ⟨none, 0, by rw [h2]; exact h1, by omega, by unfold maxLen; omega, fun h => by omega⟩
  · refine ⟨_, cap, h1, hn, hm, fun h0 => ⟨g, off, rfl, fun i hi => ?_⟩⟩
    obtain ⟨nv, tv, a1, a2, a3⟩ := hs i hi
    exact ⟨nv, tv, fun j u hj => by rw [cell_at hg, Nat.add_assoc]; exact hc _ u (a1 j u hj), a2.slb, a3.slb⟩
theorem Slb.below {w w' : World} {v : Value} {l : List UInt8} (h : Slb w v l) (hb : Below w.heap.size w w') : Slb w' v l := by
  obtain ⟨a, cap, h1, h4⟩ := h
  refine ⟨a, cap, h1, fun h0 => ?_⟩
  obtain ⟨b, off, rfl, hL⟩ := h4 h0
  exact ⟨b, off, rfl, hL.below (hL.lt h0) hb⟩
theorem PcM.below {w w' : World} {v : Value} {ps : List (ByteArray × List UInt8 × List UInt8)} (h : PcM w v ps) (hb : Below w.heap.size w w') : PcM w' v ps := by
  obtain ⟨a, c, h1, h2, h3, h4⟩ := h
  refine ⟨a, c, h1, h2, h3, fun h0 => ?_⟩
  obtain ⟨g, o, e, hc⟩ := h4 h0
  refine ⟨g, o, e, fun i hi => ?_⟩
  obtain ⟨nv, tv, a1, a2, a3⟩ := hc i hi
  exact ⟨nv, tv, fun j u hj => (hb.cell (p := ⟨g, o + i * 6 + j, none⟩) (World.block_lt_of_cell? w _ (a1 j u hj))).trans (a1 j u hj), a2.below hb, a3.below hb⟩
/-- A piece is as another one. -/
def SameP (p q : ByteArray × List UInt8 × List UInt8) : Prop := p.1 = q.1 ∧ (0 < q.2.1.length → p.2.1 = q.2.1) ∧ (endB q.1 = false → p.2.2 = q.2.2)

set_option maxRecDepth 100000 in
set_option maxHeartbeats 4000000 in
theorem sameParts_any (w : World) (va vb : Value) (pa pb : List (ByteArray × List UInt8 × List UInt8)) (ha : PcM w va pa) (hb : PcM w vb pb) (hl : pa.length = pb.length) (hs : ∀ i (h1 : i < pa.length) (h2 : i < pb.length), SameP pa[i] pb[i]) :
    Calls Tryz.prog 8 #[va, vb] w fun e w' => e = .returned (.bool true) ∧ Below w.heap.size w w' := by
  obtain ⟨aa, ac, rfl, ha1, ha2, hpa⟩ := ha
  obtain ⟨ba, bc, rfl, hb1, hb2, hpb⟩ := hb
  unfold maxLen at ha2 hb2
  have HA := Lib.hid hpa
  have HB := Lib.hid hpb
  have HS := Lib.hid hs
  obtain ⟨n, hna⟩ : ∃ n, n = pa.length := ⟨_, rfl⟩
  have hnb : n = pb.length := hna.trans hl
  rw [← hna] at ha1
  rw [← hnb] at hb1
  rw [← hna, ← hnb]
  have HN := Lib.hid (show _ ∧ _ from ⟨hna, hnb⟩)
  clear hpa hpb hs hl hna hnb
  go_enter Tryz.func8, Tryz.ntmps8
  go_wp2
  go_loopg [14] n (fun k i wr => ∃ q, q ≤ n ∧ k = n - q ∧ i = .int .i64 q ∧ Below w.heap.size w wr)
  case atStart => exact ⟨0, Nat.zero_le _, rfl, rfl, Below.refl _ _⟩
  case round =>
    obtain ⟨q, hq, hk, rfl, hbel⟩ := hrel
    have HK := Lib.hid hk
    clear hk
    by_cases hlt : q < n
    · obtain ⟨ag, ao, rfl, hac⟩ := HA.out (by have := HN.out; omega)
      obtain ⟨bg, bo, rfl, hbc⟩ := HB.out (by have := HN.out; omega)
      obtain ⟨nv, tv, a1, a2, a3⟩ := hac q (by have := HN.out; omega)
      obtain ⟨mv, uv, b1, b2, b3⟩ := hbc q (by have := HN.out; omega)
      have hsp := HS.out q (by have := HN.out; omega) (by have := HN.out; omega)
      obtain ⟨⟨kd, nm, tx⟩, hpe⟩ : ∃ p, p = pa[q]'(by have := HN.out; omega) := ⟨_, rfl⟩
      obtain ⟨⟨kd2, nm2, tx2⟩, hqe⟩ : ∃ p, p = pb[q]'(by have := HN.out; omega) := ⟨_, rfl⟩
      rw [← hpe] at a1 a2 a3 hsp
      rw [← hqe] at b1 b2 b3 hsp
      obtain ⟨e1, hsn, hst⟩ := hsp
      simp only at e1 hsn hst a2 a3 b2 b3
      subst e1
      have HLT := Lib.hid hlt
      have ka := fun j u hj => (hbel.cell (p := ⟨ag, ao + q * 6 + j, none⟩) (World.block_lt_of_cell? w _ (a1 j u hj))).trans (a1 j u hj)
      have kb := fun j u hj => (hbel.cell (p := ⟨bg, bo + q * 6 + j, none⟩) (World.block_lt_of_cell? w _ (b1 j u hj))).trans (b1 j u hj)
      obtain ⟨na, nc, rfl, _⟩ := id a2
      obtain ⟨ta, tc, rfl, _⟩ := id a3
      obtain ⟨ma, mc, rfl, _⟩ := id b2
      obtain ⟨ua, uc, rfl, _⟩ := id b3
      have k0 : wr.cell? ⟨ag, ao + q * 6, none⟩ = some (.string kd) := ka 0 _ rfl
      have k1 : wr.cell? ⟨ag, ao + q * 6 + 1, none⟩ = some (.slice na nm.length nc) := ka 1 _ rfl
      have k2 : wr.cell? ⟨ag, ao + q * 6 + 2, none⟩ = some (.slice ta tx.length tc) := ka 2 _ rfl
      have k3 : wr.cell? ⟨ag, ao + q * 6 + 3, none⟩ = some (.slice none 0 0) := ka 3 _ rfl
      have k4 : wr.cell? ⟨ag, ao + q * 6 + 4, none⟩ = some (.slice none 0 0) := ka 4 _ rfl
      have k5 : wr.cell? ⟨ag, ao + q * 6 + 5, none⟩ = some (.string ⟨#[]⟩) := ka 5 _ rfl
      have HKB := Lib.hid (show wr.cell? ⟨bg, bo + q * 6, none⟩ = some (.string kd) ∧ wr.cell? ⟨bg, bo + q * 6 + 1, none⟩ = some (.slice ma nm2.length mc) ∧ wr.cell? ⟨bg, bo + q * 6 + 2, none⟩ = some (.slice ua tx2.length uc) from ⟨kb 0 _ rfl, kb 1 _ rfl, kb 2 _ rfl⟩)
      have HSL := Lib.hid (show _ ∧ _ ∧ _ ∧ _ from ⟨a2.below hbel, a3.below hbel, b2.below hbel, b3.below hbel⟩)
      have HSN := Lib.hid (show _ ∧ _ from ⟨hsn, hst⟩)
      clear hac hbc a1 a2 a3 b1 b2 b3 ka kb hsn hst hpe hqe
      go_upto_region 5 with fail
      go_cut [5, 6] (fun i s wx => ∃ tg, i = .int .i64 q ∧ s = .pointer (some ⟨tg, 0, none⟩) ∧ wx.cell? ⟨tg, 0, none⟩ = some (.string kd) ∧ wx.cell? ⟨tg, 1, none⟩ = some (.slice na nm.length nc) ∧ wx.cell? ⟨tg, 2, none⟩ = some (.slice ta tx.length tc) ∧ Below wr.heap.size wr wx)
      case first =>
        have hb := (Below.refl wr.heap.size wr).alloc (Nat.le_refl _)
        go_wp2_with fail
        go_meet
        exact ⟨_, rfl, rfl, by rw [World.cell?_alloc_new]; rfl, by rw [World.cell?_alloc_new]; rfl, by rw [World.cell?_alloc_new]; rfl, hb _⟩
      case rest =>
      clear k0 k1 k2 k3 k4 k5
      obtain ⟨tg, rfl, rfl, c0, c1, c2, hbx⟩ := hcut
      obtain ⟨d0, d1, d2⟩ := HKB.out
      have d0 := (hbx.cell (p := ⟨bg, bo + q * 6, none⟩) (World.block_lt_of_cell? wr _ d0)).trans d0
      have d1 := (hbx.cell (p := ⟨bg, bo + q * 6 + 1, none⟩) (World.block_lt_of_cell? wr _ d1)).trans d1
      have d2 := (hbx.cell (p := ⟨bg, bo + q * 6 + 2, none⟩) (World.block_lt_of_cell? wr _ d2)).trans d2
      have hbc2 := hbel.trans (hbx.mono hbel.size)
      have hds : ∀ n, Below wr.heap.size wr (wc.drewN n) := fun n => below_drewN hbx n
      have hie := fun n => isEnd_any (wc.drewN n) kd
      clear hbel hbx
      cases hnm : decide (0 < nm2.length) with
      | true =>
        have hn0 := of_decide_eq_true hnm
        have hn1 : (0 : Int) < (nm2.length : Int) := by omega
        obtain rfl : nm = nm2 := HSN.out.1 hn0
        have hsa := fun n => same_any (wc.drewN n) _ _ nm (HSL.out.1.below (hds n)) (HSL.out.2.2.1.below (hds n))
        clear hnm
        cases he : endB kd with
        | true =>
          rw [he] at hie
          have HF := Lib.hid hbc2
          clear hds hbc2 he
          go_upto_region 6 with fail
          go_quiet ((first | (go_at_call 25; with_reducible exact Calls.quiet_of_same (hsa _)) | (go_at_call 26; with_reducible exact Calls.quiet_of_same (hie _))))
          go_wp2
          go_roundg (n - (q + 1))
          case measure => have h1 := HK.out; have h2 := HLT.out; omega
          case rel => exact ⟨q + 1, HLT.out, rfl, by go_num, below_drewN HF.out _⟩
        | false =>
          obtain rfl : tx = tx2 := HSN.out.2 he
          have hsb := fun n => same_any (wc.drewN n) _ _ tx (HSL.out.2.1.below (hds n)) (HSL.out.2.2.2.below (hds n))
          rw [he] at hie
          have HF := Lib.hid hbc2
          clear hds hbc2 he
          go_upto_region 6 with fail
          go_quiet ((first | (go_at_call 25; with_reducible exact Calls.quiet_of_same (hsa _)) | (go_at_call 25; with_reducible exact Calls.quiet_of_same (hsb _)) | (go_at_call 26; with_reducible exact Calls.quiet_of_same (hie _))))
          go_wp2
          go_roundg (n - (q + 1))
          case measure => have h1 := HK.out; have h2 := HLT.out; omega
          case rel => exact ⟨q + 1, HLT.out, rfl, by go_num, below_drewN HF.out _⟩
      | false =>
        have hn0 : ¬ 0 < nm2.length := of_decide_eq_false hnm
        have hn1 : ¬ (0 : Int) < (nm2.length : Int) := by omega
        clear hnm
        cases he : endB kd with
        | true =>
          rw [he] at hie
          have HF := Lib.hid hbc2
          clear hds hbc2 he
          go_upto_region 6 with fail
          go_quiet ((first | (go_at_call 26; with_reducible exact Calls.quiet_of_same (hie _))))
          go_wp2
          go_roundg (n - (q + 1))
          case measure => have h1 := HK.out; have h2 := HLT.out; omega
          case rel => exact ⟨q + 1, HLT.out, rfl, by go_num, below_drewN HF.out _⟩
        | false =>
          obtain rfl : tx = tx2 := HSN.out.2 he
          have hsb := fun n => same_any (wc.drewN n) _ _ tx (HSL.out.2.1.below (hds n)) (HSL.out.2.2.2.below (hds n))
          rw [he] at hie
          have HF := Lib.hid hbc2
          clear hds hbc2 he
          go_upto_region 6 with fail
          go_quiet ((first | (go_at_call 25; with_reducible exact Calls.quiet_of_same (hsb _)) | (go_at_call 26; with_reducible exact Calls.quiet_of_same (hie _))))
          go_wp2
          go_roundg (n - (q + 1))
          case measure => have h1 := HK.out; have h2 := HLT.out; omega
          case rel => exact ⟨q + 1, HLT.out, rfl, by go_num, below_drewN HF.out _⟩
    · have hq' : q = n := by omega
      have HT := Lib.hid hbel
      subst hq'
      go_wp2
      go_ret
      exact ⟨rfl, HT.out⟩
end Go.Proofs.YtlglijnaeaonpaaGreatDoor.Css
