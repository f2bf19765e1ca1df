/- Pieces of one's own, whose texts lie below an older mark; what is appended to them. -/
import Derived.Test.YtlglijnaeaonpaaGreatDoorNab
import Derived.Test.YtlglijnaeaonpaaGreatDoorNs
import Derived.Test.YtlglijnaeaonpaaGreatDoorNu
set_option linter.all false
/- Pieces of one's own, whose texts lie below an older mark; what is appended to them. -/
namespace Go.Proofs.YtlglijnaeaonpaaGreatDoor.Css
open Go.RowKit

abbrev Pc := ByteArray × List UInt8 × List UInt8
/-- Pieces in memory; their texts lie below A, or are rows of bytes. -/
def PcB (A B : Nat) (w0 w : World) (v : Value) (ps : List Pc) : Prop :=
  ∃ cs, Own w B 55 6 v ps.length cs ∧ (∀ i (h : i < ps.length), ∃ nv tv, (∀ j u, (pcs ps[i].1 nv tv).toList[j]? = some u → cs[i * 6 + j]? = some u) ∧ Slp A w nv ps[i].2.1 ∧ Slp A w tv ps[i].2.2) ∧ Below B w0 w ∧ B ≤ w0.heap.size ∧ A ≤ B ∧ v ≠ .slice none 0 0
section
variable {A B : Nat} {w0 w : World} {v : Value} {ps : List Pc}
theorem PcB.shape (h : PcB A B w0 w v ps) : ∃ a n c, v = .slice a n c := by
  obtain ⟨cs, ho, _⟩ := h
  rcases ho.2 with ⟨h1, h2⟩ | ⟨g, off, cap, cur, h1, _⟩
  · exact ⟨_, _, _, h1⟩
  · exact ⟨_, _, _, h1⟩
theorem PcB.hB' (h : PcB A B w0 w v ps) : B ≤ w.heap.size := by
  obtain ⟨cs, _, _, h1, h2, _⟩ := h
  exact Nat.le_trans h2 h1.size
theorem PcB.bel (h : PcB A B w0 w v ps) : Below B w0 w := by
  obtain ⟨cs, _, _, h1, _⟩ := h
  exact h1
theorem PcB.below {w' : World} (h : PcB A B w0 w v ps) (hb : Below w.heap.size w w') : PcB A B w0 w' v ps := by
  have hB := h.hB'
  obtain ⟨cs, ho, hs, h1, h2⟩ := h
  refine ⟨cs, ho.keep fun k hk => hb.block k (ho.lt k hk).2.1, fun i hi => ?_, h1.trans (hb.mono hB), h2⟩
  obtain ⟨nv, tv, a, b, c⟩ := hs i hi
  exact ⟨nv, tv, a, b.below hb, c.below hb⟩
theorem PcB.start (A : Nat) (w0 : World) (hA : A ≤ w0.heap.size) : PcB A w0.heap.size w0 (w0.alloc (.cells #[] 55)) (.slice (some ⟨w0.heap.size, 0, none⟩) 0 0) [] :=
  ⟨[], ⟨rfl, .inr ⟨w0.heap.size, 0, 0, #[], rfl, Nat.le_refl _, alloc_new _ _, by simp, fun j u hj => by simp at hj, Nat.le_refl _, by unfold maxLen; omega⟩⟩, fun i hi => absurd hi (by simp), (Below.refl _ _).alloc (Nat.le_refl _) _, Nat.le_refl _, hA, fun h => by cases h⟩
theorem PcB.mem (h : PcB A B w0 w v ps) : PcM w v ps := by
  obtain ⟨cs, ho, hs, _⟩ := h
  rcases id ho.2 with ⟨h1, h2⟩ | ⟨g, off, cap, cur, h1, hB, hg, hsz, hc, hn, hm⟩
  · exact ⟨none, 0, by rw [h2]; exact h1, by omega, by unfold maxLen; omega, fun h => by omega⟩
  · refine ⟨_, cap, h1, hn, hm, fun h0 => ⟨g, off, rfl, fun i hi => ?_⟩⟩
    obtain ⟨nv, tv, a1, a2, a3⟩ := hs i hi
    exact ⟨nv, tv, fun j u hj => by rw [cell_at hg, Nat.add_assoc]; exact hc _ u (a1 j u hj), a2.slb, a3.slb⟩
end
/-- Pieces that are read, to be appended. -/
def PcSrc (A : Nat) (w : World) (ad : Addr) (qs : List Pc) : Prop :=
  ∃ cs : List Value, cs.length = qs.length * 6 ∧ (∀ j u, cs[j]? = some u → w.cell? (ad.add j) = some u) ∧ ∀ i (h : i < qs.length), ∃ nv tv, (∀ j u, (pcs qs[i].1 nv tv).toList[j]? = some u → cs[i * 6 + j]? = some u) ∧ Slp A w nv qs[i].2.1 ∧ Slp A w tv qs[i].2.2
theorem PcSrc.one {A : Nat} {w : World} {g : Nat} {kd : ByteArray} {nv tv : Value} {nm tx : List UInt8} (hu : w.heap[g]? = some (.cells (pcs kd nv tv) 55 (0, 0))) (hn : Slp A w nv nm) (ht : Slp A w tv tx) : PcSrc A w ⟨g, 0, none⟩ [(kd, nm, tx)] := by
  refine ⟨(pcs kd nv tv).toList, rfl, fun j z hj => ?_, fun i hi => ?_⟩
  · rw [show (⟨g, 0, none⟩ : Addr).add j = ⟨g, j, none⟩ by unfold Addr.add; split <;> simp_all, cell_at hu]
    simpa using hj
  · have hi' : i < 1 := hi
    obtain rfl : i = 0 := by omega
    exact ⟨nv, tv, fun j u hj => by rw [Nat.zero_mul, Nat.zero_add]; exact hj, hn, ht⟩
theorem PcB.src {A B : Nat} {w0 w : World} {v : Value} {qs : List Pc} (h : PcB A B w0 w v qs) : ∃ g off c, v = .slice (some ⟨g, off, none⟩) qs.length c ∧ PcSrc A w ⟨g, off, none⟩ qs := by
  obtain ⟨cs, ho, hs, _, _, _, hn⟩ := h
  rcases id ho.2 with ⟨h1, h2⟩ | ⟨g, off, cap, cur, rfl, hB, hg, hsz, hc, hnn, hm⟩
  · exact absurd h1 hn
  · exact ⟨g, off, cap, rfl, cs, ho.1, ho.cells, hs⟩
/-- Pieces are appended. -/
theorem wp_b {w : World} {o : Oper} {a : Act} {K0 : Act → World → Prop} {Q : Exit → Act → World → Prop} (s x : Operand)
    (hop : o.op = .call { callee := .builtin .append, args := #[s, x], argTypes := #[26, 26] }) {A B : Nat} {w0 : World} {v : Value} {ps qs : List Pc} (hs : a.eval s = v) (hT : PcB A B w0 w v ps)
    {ad : Addr} {m c : Nat} (hx : a.eval x = .slice (some ad) m c) (hq : PcSrc A w ad qs) (hlen : ps.length ≤ 1000000) (hm : qs.length ≤ m ∧ m ≤ qs.length) (hm2 : m ≤ 1000000) (hnn : 0 < ps.length ∨ 0 < m)
    (K : ∀ v' w', PcB A B w0 w' v' (ps ++ qs) → OthP B w w' → K0 (a.put o.dst v') w') : o.wp Tryz.prog a w K0 Q := by
  obtain rfl : m = qs.length := by omega
  obtain ⟨i0, hi, hz0, hz1, hz2⟩ := info_parts info55
  have hB := hT.hB'
  obtain ⟨cs, ho, hcs, h1, h2, hAB, hvn⟩ := hT
  obtain ⟨ds, hdl, hdc, hdp⟩ := hq
  have hone : ∀ u ∈ ds, u.oneCell' = true := by
    intro u hu
    obtain ⟨k, hk, rfl⟩ := List.mem_iff_getElem.1 hu
    have hq : k / 6 < qs.length := Nat.div_lt_of_lt_mul (by omega)
    obtain ⟨nv, tv, a1, a2, a3⟩ := hdp (k / 6) hq
    have hj : k % 6 < 6 := Nat.mod_lt _ (by decide)
    obtain ⟨_, _, rfl, _⟩ := a2
    obtain ⟨_, _, rfl, _⟩ := a3
    have hget := a1 (k % 6) ((pcs qs[k / 6].1 _ _).toList[k % 6]'hj) (List.getElem?_eq_getElem hj)
    rw [show k / 6 * 6 + k % 6 = k by omega, List.getElem?_eq_getElem hk] at hget
    have hget' := Option.some.inj hget
    rw [hget']
    generalize hjj : k % 6 = jj at hj ⊢
    match jj, hj with
    | 0, _ => rfl
    | 1, _ => rfl
    | 2, _ => rfl
    | 3, _ => rfl
    | 4, _ => rfl
    | 5, _ => rfl
  obtain ⟨v', w', hrun, r1, r2⟩ := run_append_Own (P := Tryz.prog) w B 26 o.type 55 i0 (.agg #[.string ⟨#[]⟩, .slice none 0 0, .slice none 0 0, .slice none 0 0, .slice none 0 0, .string ⟨#[]⟩]) 6 128 Tryz.underlying26 hi hz0 hz1 hz2 rfl (by decide) v ps.length cs ho ad qs.length c ds hdl hdc hone (by unfold maxLen; omega) (by omega) hB
  unfold Oper.wp
  simp [execOp, hop, resolve, invoke, builtin, hs, hx, hrun, Result.andThen]
  refine K v' w' ?_ ?_
  rotate_left
  · exact ⟨(Below.refl _ _).grown r2 hB (fun k hk => (ho.lt k hk).1), fun k cs' t f hk ht => by
      rw [r2.block k (Array.getElem?_eq_some_iff.1 hk).1 (fun e => by obtain ⟨_, _, cur', hc⟩ := ho.lt k e.symm; exact ht (ty_eq hk hc))]
      exact hk⟩
  · have hbw : Below B w w' := (Below.refl _ _).grown r2 hB (fun k hk => (ho.lt k hk).1)
    have hcl : cs.length = ps.length * 6 := ho.1
    have hk5 : ∀ (k : Nat) (cur : Array Value) (f : Nat × Nat), w.heap[k]? = some (Obj.cells cur 5 f) → w'.heap[k]? = some (Obj.cells cur 5 f) := fun k cur f hk => by
      rw [r2.block k (Array.getElem?_eq_some_iff.1 hk).1 (fun e => ?_)]
      · exact hk
      · obtain ⟨_, _, cur', hc⟩ := ho.lt k e.symm
        exact absurd (ty_eq hk hc) (by decide)
    have hkA : ∀ k : Nat, k < w.heap.size → k < A → w'.heap[k]? = w.heap[k]? := fun k _ hk => hbw.block k (Nat.lt_of_lt_of_le hk hAB)
    refine ⟨cs ++ ds, by rw [List.length_append]; exact r1, fun i hi => ?_, h1.trans hbw, h2, hAB, fun e => ?_⟩
    · rcases Nat.lt_or_ge i ps.length with hlt | hge
      · obtain ⟨nv', tv', a1, a2, a3⟩ := hcs i hlt
        rw [List.getElem_append_left hlt]
        refine ⟨nv', tv', fun j u hj => ?_, a2.keep hkA hk5, a3.keep hkA hk5⟩
        have hj6 : j < 6 := (List.getElem?_eq_some_iff.1 hj).1
        rw [List.getElem?_append_left (by omega)]
        exact a1 j u hj
      · have hi2 : i - ps.length < qs.length := by rw [List.length_append] at hi; omega
        obtain ⟨nv', tv', a1, a2, a3⟩ := hdp (i - ps.length) hi2
        rw [List.getElem_append_right hge]
        refine ⟨nv', tv', fun j u hj => ?_, a2.keep hkA hk5, a3.keep hkA hk5⟩
        rw [List.getElem?_append_right (by omega), hcl, show i * 6 + j - ps.length * 6 = (i - ps.length) * 6 + j by omega]
        exact a1 j u hj
    · subst e
      rcases r1.2 with ⟨_, h⟩ | ⟨_, _, _, _, h, _⟩
      · omega
      · cases h
theorem step_b {w : World} {ops : Array Oper} {o : Oper} {a : Act} {K0 : Act → World → Prop} {Q : Exit → Act → World → Prop} {E : Prop} (hgd : o.guard = none) (s x : Operand)
    (hop : o.op = .call { callee := .builtin .append, args := #[s, x], argTypes := #[26, 26] }) {A B : Nat} {w0 : World} {v : Value} {ps qs : List Pc} (hs : a.eval s = v) (hT : PcB A B w0 w v ps)
    {ad : Addr} {m c : Nat} (hx : a.eval x = .slice (some ad) m c) (hq : PcSrc A w ad qs) (hlen : ps.length ≤ 1000000) (hm : m = qs.length) (hm3 : m ≤ 1000000) (hnn : 0 < ps.length ∨ 0 < m)
    (K : ∀ v' w', PcB A B w0 w' v' (ps ++ qs) → OthP B w w' → K0 (a.put o.dst v') w') : if Region.wanted o (yielded ops a.tmps) = true then Oper.wp Tryz.prog o a w K0 Q else E := by
  have hw : Region.wanted o (yielded ops a.tmps) = true := by simp [Region.wanted, hgd]
  rw [if_pos hw]
  exact wp_b s x hop hs hT hx hq hlen ⟨by omega, by omega⟩ hm3 hnn K
theorem app_b {w : World} {ops : Array Oper} {rest : List Oper} {o : Oper} {a : Act} {Q : Exit → Act → World → Prop} (hg : o.guard = none) (s x : Operand)
    (hop : o.op = .call { callee := .builtin .append, args := #[s, x], argTypes := #[26, 26] }) {A B : Nat} {w0 : World} {v : Value} {ps qs : List Pc} (hs : a.eval s = v) (hT : PcB A B w0 w v ps)
    {ad : Addr} {m c : Nat} (hx : a.eval x = .slice (some ad) m c) (hq : PcSrc A w ad qs) (hlen : ps.length ≤ 1000000) (hm : m = qs.length) (hm3 : m ≤ 1000000) (hnn : 0 < ps.length ∨ 0 < m)
    (K : ∀ v' w', PcB A B w0 w' v' (ps ++ qs) → OthP B w w' → wpList Tryz.prog ops Q rest (a.put o.dst v') w') : wpList Tryz.prog ops Q (o :: rest) a w :=
  wpList_plain hg fun _ hK => wp_b s x hop hs hT hx hq hlen ⟨by omega, by omega⟩ hm3 hnn fun v' w' h1 h2 => hK _ _ (K v' w' h1 h2)
def PcBPost (A : Nat) (w : World) (ps : List Pc) (e : Ending) (w' : World) : Prop := ∃ v, e = .returned v ∧ PcB A w.heap.size w w' v ps

set_option maxRecDepth 100000 in
set_option maxHeartbeats 4000000 in
theorem declP_any (wA w : World) (hAw : Below wA.heap.size wA w) (v : Value) (ds : List (List UInt8 × List (List UInt8))) (f : List UInt8 → List (Int × Nat × Nat)) (h : DeclsMem wA v ds) (hU : Utab w) (hx : ∀ d ∈ ds, (∀ x ∈ d.2, Fine x (f x)) ∧ d.2.length ≤ 8) (hlen : ds.length ≤ 10) :
    Calls Tryz.prog 13 #[v] w (PcBPost wA.heap.size w (ds.map (pieceOf f))) := by
  obtain ⟨a, c, rfl, hc1, hc2, hpos⟩ := h
  have hst := PcB.start wA.heap.size w hAw.size
  rcases Nat.eq_zero_or_pos ds.length with h0 | h0
  · rw [h0, List.eq_nil_of_length_eq_zero h0]
    clear hpos h0 hc1 hlen hx hU
    go_enter Tryz.func13, Tryz.ntmps13
    go_wp2
    refine wp_loop_once fun _ => ?_
    go_wp2
    go_ret
    exact ⟨_, rfl, hst⟩
  obtain ⟨g, o, rfl, hcell⟩ := hpos h0
  have HC := Lib.hid hcell
  have HX := Lib.hid hx
  have HU := Lib.hid hU
  clear hpos hcell hx hU
  go_enter Tryz.func13, Tryz.ntmps13
  go_wp2
  go_loopg [3, 9] ds.length (fun k v3 i wr => ∃ q, q ≤ ds.length ∧ k = ds.length - q ∧ i = .int .i64 q ∧ PcB wA.heap.size w.heap.size w wr v3 ((ds.take q).map (pieceOf f)))
  case atStart => exact ⟨0, Nat.zero_le _, rfl, rfl, hst⟩
  case round =>
    clear hst
    obtain ⟨q, hq, hk, rfl, hT⟩ := hrel
    have HK := Lib.hid hk
    clear hk
    obtain ⟨va, vn, vc, rfl⟩ := hT.shape
    by_cases hlt : q < ds.length
    · obtain ⟨d, hde⟩ : ∃ d, d = ds[q] := ⟨_, rfl⟩
      obtain ⟨nv, xv, hu1, hu2, hs1A, hs2A⟩ := HC.out q hlt
      have hs1 := hs1A.below hAw
      have hs2 := hs2A.below hAw
      have hsp := (hs1A.slp (Nat.le_refl _)).below hAw
      replace hu1 := (hAw.cell (p := ⟨g, o + q * 2, none⟩) (World.block_lt_of_cell? wA _ hu1)).trans hu1
      replace hu2 := (hAw.cell (p := ⟨g, o + q * 2 + 1, none⟩) (World.block_lt_of_cell? wA _ hu2)).trans hu2
      have hfine := HX.out ds[q] (List.getElem_mem hlt)
      rw [← hde] at hs1 hs2 hfine hsp
      have HLT := Lib.hid hlt
      have HTK := Lib.hid (show (ds.take (q + 1)).map (pieceOf f) = (ds.take q).map (pieceOf f) ++ [pieceOf f d] from by
        rw [List.take_succ_eq_append_getElem hlt, List.map_append, ← hde]; rfl)
      have HLN := Lib.hid (show ((ds.take q).map (pieceOf f)).length ≤ 1000000 from by
        rw [List.length_map, List.length_take]; omega)
      have k0 : wr.cell? ⟨g, o + q * 2, none⟩ = some nv := (hT.bel.cell (p := ⟨g, o + q * 2, none⟩) (World.block_lt_of_cell? w _ hu1)).trans hu1
      have k1 : wr.cell? ⟨g, o + q * 2 + 1, none⟩ = some xv := (hT.bel.cell (p := ⟨g, o + q * 2 + 1, none⟩) (World.block_lt_of_cell? w _ hu2)).trans hu2
      obtain ⟨na, nc, rfl, _, _, _⟩ := id hs1
      obtain ⟨xa, xc, rfl, _, _, _⟩ := id hs2
      have HS := Lib.hid (show _ ∧ _ ∧ _ from ⟨hs1, hs2, hfine⟩)
      have HSP := Lib.hid hsp
      clear hu1 hu2 hs1 hs2 hs1A hs2A hde hfine hsp
      go_upto_region 4 with fail
      go_cut [5] (fun s wx => ∃ tg, s = .pointer (some ⟨tg, 0, none⟩) ∧ wx.cell? ⟨tg, 0, none⟩ = some (.slice na d.1.length nc) ∧ wx.cell? ⟨tg, 1, none⟩ = some (.slice xa d.2.length xc) ∧ Below wr.heap.size wr wx)
      case first =>
        have hb := (Below.refl wr.heap.size wr).alloc (Nat.le_refl _)
        go_wp2_with fail
        go_meet
        exact ⟨_, rfl, by rw [World.cell?_alloc_new]; rfl, by rw [World.cell?_alloc_new]; rfl, hb _⟩
      case rest =>
      clear k0 k1
      obtain ⟨tg, rfl, c0, c1, hbx⟩ := hcut
      have hT1 := hT.below hbx
      clear hT hbx
      have htg := World.block_lt_of_cell? wc _ c0
      have hT2 := hT1.below (w' := wc.drew) ⟨rfl, rfl, rfl, Nat.le_refl _, fun _ _ => rfl⟩
      have htk := toks_any wc.drew _ d.2 f ((HS.out.2.1.below hT2.bel)) (HU.out.below HU.out.lt hT2.bel) HS.out.2.2.1 HS.out.2.2.2
      have HT2 := Lib.hid hT2
      clear hT2 hT1
      go_upto_region 5 with fail
      go_region_law (first | (go_simp; go_at_call 28; ((with_reducible refine htk.mono ?_); rintro e w3 ⟨tv, rfl, hOW⟩; have hprt := part_any w3 ⟨#[100, 101, 99, 108, 97, 114, 97, 116, 105, 111, 110]⟩ (.slice na d.1.length nc) tv (toks f d.2) ⟨_, _, _, rfl⟩ hOW.words (toks_fit HS.out.2.2.1) (by have h1 := toks_len HS.out.2.2.1; have h2 := HS.out.2.2.2; omega); have hbx : Below wc.drew.heap.size wc.drew w3 := (by obtain ⟨_, _, _, h, _⟩ := hOW; exact h); have c03 := (hbx.cell (p := ⟨tg, 0, none⟩) htg).trans c0; have hT3 := HT2.out.below hbx; obtain ⟨_, _, _, rfl⟩ := hOW.shape; clear hOW htk hbx)) | (go_simp; go_at_call 27; ((with_reducible refine hprt.mono ?_); rintro e w4 ⟨xv, rfl, hTX⟩; obtain ⟨_, _, _, rfl⟩ := hTX.shape; have hT4 := hT3.below hTX.bel; clear hprt hT3)) | (refine step_b rfl (.tmp 13) (.tmp 20) rfl rfl (hT4.below ((Below.refl _ _).alloc (Nat.le_refl _) _)) rfl (PcSrc.one (alloc_new _ _) (HSP.out.below (hT4.bel.alloc hT4.hB' _)) ((hTX.alloc _).slp)) HLN.out rfl (by omega) (.inr (Nat.le_refl 1)) ?_; intro v' w5 hT5 _; obtain ⟨va5, vn5, vc5, rfl⟩ := hT5.shape; have HT5 := Lib.hid hT5; clear hT5 hT4 hTX))
      all_goals go_wp2_with fail
      all_goals go_roundg (ds.length - (q + 1))
      all_goals first
        | (have h1 := HK.out; have h2 := HLT.out; omega)
        | exact ⟨q + 1, HLT.out, rfl, by go_num, by rw [HTK.out]; exact HT5.out⟩
    · have hq' : q = ds.length := by omega
      have HT := Lib.hid hT
      subst hq'
      go_wp2
      go_ret
      have := HT.out
      rw [List.take_length] at this
      exact ⟨_, rfl, this⟩
end Go.Proofs.YtlglijnaeaonpaaGreatDoor.Css
/- The pieces of a sheet, walked. -/
namespace Go.Proofs.YtlglijnaeaonpaaGreatDoor.Css
open Go.RowKit

/-- The tokens of a selector. -/
noncomputable def stoks (x : List UInt8) : List (Int × Nat × Nat) := by
  classical exact if h : SelT x then h.ts.choose else []
theorem stoks_spec {x : List UInt8} (h : SelT x) : stoks x ≠ [] ∧ Chain x.length 0 (stoks x) x.length ∧ (∀ k ∈ stoks x, Sk k.1 ∧ Tk x k.2.1 k.1 k.2.2) ∧ Bal 0 (stoks x) := by
  unfold stoks
  rw [dif_pos h]
  exact h.ts.choose_spec
theorem stoks_fine {x : List UInt8} (h : SelT x) : Fine x (stoks x) := by
  obtain ⟨_, h2, h3, _⟩ := stoks_spec h
  refine ⟨h.bs, h.nz, h.le, h2, fun k hk => .inl ⟨?_, (h3 k hk).2⟩⟩
  have := (h3 k hk).1
  unfold Sk at this
  omega
def kBegin : ByteArray := ⟨#[98, 101, 103, 105, 110]⟩
def kEnd : ByteArray := ⟨#[101, 110, 100]⟩
def kAtk : ByteArray := ⟨#[97, 116]⟩
def kBeginAt : ByteArray := ⟨#[98, 101, 103, 105, 110, 32, 97, 116]⟩
def kEndAt : ByteArray := ⟨#[101, 110, 100, 32, 97, 116]⟩
/-- The pieces of one part. -/
noncomputable def pieces1 (p : PT) (body : List Pc) : List Pc :=
  bif kRule p then (kBegin, [], bars (toks stoks [p.name])) :: (p.decls.map (pieceOf wtoks) ++ [(kEnd, [], [])])
  else bif kAt p then [(kAtk, 64 :: p.name, bars (toks wtoks p.words))]
  else (kBeginAt, 64 :: p.name, bars (toks wtoks p.words)) :: (body ++ [(kEndAt, [], [])])
/-- The pieces of parts. -/
noncomputable def ppieces : Nat → List PT → List Pc
  | 0, ps => ps.flatMap fun p => pieces1 p []
  | d + 1, ps => ps.flatMap fun p => pieces1 p (ppieces d p.parts)
noncomputable def bodyP : Nat → PT → List Pc
  | 0, _ => []
  | d + 1, p => ppieces d p.parts
theorem ppieces_eq (d : Nat) (ps : List PT) : ppieces d ps = ps.flatMap fun p => pieces1 p (bodyP d p) := by cases d <;> rfl
theorem ppieces_snoc (d : Nat) (ps : List PT) (p : PT) : ppieces d (ps ++ [p]) = ppieces d ps ++ pieces1 p (bodyP d p) := by
  rw [ppieces_eq, ppieces_eq, List.flatMap_append]; simp
theorem flatN_len {α β : Type} (f : α → List β) (M : Nat) (l : List α) (h : ∀ x ∈ l, (f x).length ≤ M) : (l.flatMap f).length ≤ M * l.length := by
  induction l with
  | nil => simp
  | cons a l ih =>
    have h1 := h a (by simp)
    have h2 := ih fun x hx => h x (by simp [hx])
    simp only [List.flatMap_cons, List.length_append, List.length_cons, Nat.mul_add]
    omega
theorem pieces1_len {d : Nat} {p : PT} (h : PartOK d p) (body : List Pc) : (pieces1 p body).length ≤ 12 + body.length := by
  rcases h with h | h | ⟨h, _⟩
  · have h2 := h.ds.le
    simp only [pieces1, h.k, cond_true, List.length_append, List.length_cons, List.length_nil, List.length_map]
    omega
  · simp only [pieces1, h.k, kinds.2.2 h.k, cond_true, cond_false, List.length_cons, List.length_nil]
    omega
  · simp only [pieces1, kinds.2.1 h.k, cond_false, List.length_append, List.length_cons, List.length_nil]
    omega
theorem ppart_len {d : Nat} {p : PT} (h : PartOK d p) : (pieces1 p (bodyP d p)).length ≤ 20 * 11 ^ d := by
  induction d generalizing p with
  | zero =>
    have h1 := pieces1_len h []
    simp only [bodyP, List.length_nil] at h1 ⊢
    omega
  | succ d ih =>
    have h1 := pieces1_len h (bodyP (d + 1) p)
    have h3 : 1 ≤ 11 ^ d := Nat.one_le_pow _ _ (by omega)
    rcases h with h | h | ⟨h, d', hd, hP⟩
    · have h4 := pieces1_len (d := d) (.inl h) []
      have : pieces1 p (bodyP (d + 1) p) = pieces1 p [] := by simp only [pieces1, h.k, cond_true]
      rw [this, Nat.pow_succ]
      simp only [List.length_nil] at h4
      omega
    · have h4 := pieces1_len (d := d) (.inr (.inl h)) []
      have : pieces1 p (bodyP (d + 1) p) = pieces1 p [] := by simp only [pieces1, h.k, kinds.2.2 h.k, cond_true, cond_false]
      rw [this, Nat.pow_succ]
      simp only [List.length_nil] at h4
      omega
    · obtain rfl : d = d' := by omega
      have h4 := flatN_len (fun p => pieces1 p (bodyP d p)) (20 * 11 ^ d) p.parts fun x hx => ih (hP.part x hx).2
      have h5 : bodyP (d + 1) p = p.parts.flatMap fun p => pieces1 p (bodyP d p) := ppieces_eq d p.parts
      rw [← h5] at h4
      have h6 := hP.le
      have h7 := Nat.mul_le_mul_left (20 * 11 ^ d) h6
      rw [Nat.pow_succ]
      omega
theorem ppieces_len {d : Nat} {ps : List PT} (h : PartsOK d ps) (hd : d ≤ 3) : (ppieces d ps).length ≤ 266200 := by
  have h1 := flatN_len (fun p => pieces1 p (bodyP d p)) (20 * 11 ^ d) ps fun x hx => ppart_len (h.part x hx).2
  rw [← ppieces_eq] at h1
  have h2 := h.le
  have h3 : 11 ^ d ≤ 11 ^ 3 := Nat.pow_le_pow_right (by omega) hd
  have h4 := Nat.mul_le_mul (Nat.mul_le_mul_left 20 h3) h2
  omega
theorem words1 {w : World} {u : Value} {l : List UInt8} (h : Sl w u l) : WordsMem (w.alloc (.cells #[u] 24)) (.slice (some ⟨w.heap.size, 0, none⟩) 1 1) [l] := by
  refine ⟨some ⟨w.heap.size, 0, none⟩, 1, rfl, Nat.le_refl _, by omega, fun _ => ⟨w.heap.size, 0, rfl, fun i hi => ?_⟩⟩
  have hi' : i < 1 := hi
  obtain rfl : i = 0 := by omega
  exact ⟨u, by rw [cell_at (alloc_new _ _)]; rfl, h.below ((Below.refl _ _).alloc (Nat.le_refl _) _)⟩
theorem Slp.nilv (A : Nat) (w : World) : Slp A w (.slice none 0 0) [] := ⟨none, 0, rfl, fun h => absurd h (by simp)⟩
theorem OutW.bel {B : Nat} {w0 w : World} {v : Value} {tl : List (List UInt8)} (h : OutW B w0 w v tl) : Below B w0 w := by
  obtain ⟨_, _, _, h, _⟩ := h; exact h
theorem Tx.one (w : World) (c : UInt8) (m : Int) (hm : m = c.toNat) : Tx w.heap.size w (w.alloc (.cells #[.int .u8 m] 5)) (.slice (some ⟨w.heap.size, 0, none⟩) 1 1) [c] := by
  subst hm
  exact ⟨⟨⟨rfl, .inr ⟨w.heap.size, 1, _, rfl, Nat.le_refl _, alloc_new _ _, Nat.le_refl _, by unfold maxLen; omega, rfl, rfl⟩⟩, (Below.refl _ _).alloc (Nat.le_refl _) _, Nat.le_refl _⟩, fun h => by cases h⟩
/-- The pieces of a sheet of a depth. -/
def PiecesP (d : Nat) : Prop := ∀ (wA w : World), Below wA.heap.size wA w → ∀ (v : Value) (ps : List PT), PartsMem wA v ps → PartsOK d ps → Utab wA → Calls Tryz.prog 9 #[v] w (PcBPost wA.heap.size w (ppieces d ps))

set_option maxRecDepth 100000 in
set_option maxHeartbeats 8000000 in
theorem pieces_step (d : Nat) (hd : d ≤ 3) (IH : ∀ d', d = d' + 1 → PiecesP d') : PiecesP d := by
  intro wA w hAw v ps h hok hU
  obtain ⟨a, c, rfl, hc1, hc2⟩ := h.shape
  have hst := PcB.start wA.heap.size w hAw.size
  rcases Nat.eq_zero_or_pos ps.length with h0 | h0
  · have e : ppieces d ps = [] := by rw [List.eq_nil_of_length_eq_zero h0, ppieces_eq]; rfl
    rw [h0, e]
    clear h0 hc1 h hok IH e hU
    go_enter Tryz.func9, Tryz.ntmps9
    go_wp2
    refine wp_loop_once fun _ => ?_
    go_wp2
    go_ret
    exact ⟨_, rfl, hst⟩
  obtain ⟨g, o, rfl, hcell⟩ := h.at h0
  have HC := Lib.hid hcell
  have HOK := Lib.hid hok
  have HI := Lib.hid IH
  have HUA := Lib.hid hU
  have h3 := hok.le
  clear hcell h IH hok hU
  go_enter Tryz.func9, Tryz.ntmps9
  go_wp2
  go_loopg [3, 10] ps.length (fun k v3 i wr => ∃ q, q ≤ ps.length ∧ k = ps.length - q ∧ i = .int .i64 q ∧ PcB wA.heap.size w.heap.size w wr v3 (ppieces d (ps.take q)))
  case atStart => exact ⟨0, Nat.zero_le _, rfl, rfl, by rw [List.take_zero, ppieces_eq]; exact hst⟩
  case round =>
    clear hst
    obtain ⟨q, hq, hk, rfl, hT⟩ := hrel
    have HK := Lib.hid hk
    clear hk
    obtain ⟨va, vn, vc, rfl⟩ := hT.shape
    by_cases hlt : q < ps.length
    · obtain ⟨p, hx⟩ : ∃ p, p = ps[q] := ⟨_, rfl⟩
      obtain ⟨nv, wv, dv, pv, k0, k1, k2, k3, k4, hm, hpm⟩ := HC.out q hlt
      obtain ⟨hvals, hpo⟩ := HOK.out.part ps[q] (List.getElem_mem hlt)
      rw [← hx] at k0 hm hpm hvals hpo
      have HLT := Lib.hid hlt
      obtain ⟨T, hTe⟩ : ∃ T, T = ppieces d (ps.take q) := ⟨_, rfl⟩
      have HTK := Lib.hid (show ppieces d (ps.take (q + 1)) = T ++ pieces1 p (bodyP d p) from by
        rw [List.take_succ_eq_append_getElem hlt, ppieces_snoc, ← hx, ← hTe])
      have hTl : T.length ≤ 266200 := by rw [hTe]; exact ppieces_len (HOK.out.take q) hd
      rw [← hTe] at hT
      have hnl : 0 < p.name.length ∧ p.name.length ≤ 60 := by
        rcases hpo with h | h | ⟨h, _⟩
        · refine ⟨?_, h.nm.le⟩
          obtain ⟨ts, hne, hch, _⟩ := h.nm.ts
          cases ts with
          | nil => exact absurd rfl hne
          | cons a ts => have := Chain.mem hch a (by simp); omega
        · exact h.nm.len
        · exact h.nm.len
      obtain ⟨hn0, hn1⟩ := hnl
      have hbR := hAw.trans (hT.bel.mono hAw.size)
      replace k0 := (hbR.cell (p := ⟨g, o + q * 5, none⟩) (World.block_lt_of_cell? wA _ k0)).trans k0
      replace k1 := (hbR.cell (p := ⟨g, o + q * 5 + 1, none⟩) (World.block_lt_of_cell? wA _ k1)).trans k1
      replace k2 := (hbR.cell (p := ⟨g, o + q * 5 + 2, none⟩) (World.block_lt_of_cell? wA _ k2)).trans k2
      replace k3 := (hbR.cell (p := ⟨g, o + q * 5 + 3, none⟩) (World.block_lt_of_cell? wA _ k3)).trans k3
      replace k4 := (hbR.cell (p := ⟨g, o + q * 5 + 4, none⟩) (World.block_lt_of_cell? wA _ k4)).trans k4
      obtain ⟨wa, wc0, rfl, _, _, _⟩ := id hm.ws
      obtain ⟨na, nc0, rfl, _, _, hnp⟩ := id hm.nm
      obtain ⟨nb, noff, rfl, hnL⟩ := hnp hn0
      obtain ⟨da, dc0, rfl, _, _, _⟩ := id hm.ds
      obtain ⟨pa, pc0, rfl, _, _⟩ := hpm.shape
      have HNL := Lib.hid hnL
      have HNM := Lib.hid hm.nm
      have HDM := Lib.hid hm.ds
      have HPM := Lib.hid hpm
      have HF2 := Lib.hid (show ∀ x ∈ p.words, Fine x (wtoks x) from fun x hx => wtoks_fine (hvals.vt x hx))
      have HW8 := Lib.hid hvals.le
      have htk2 := fun (w1 : World) (hb : Below wA.heap.size wA w1) (hU : Utab w1) => toks_any w1 _ p.words wtoks (hm.ws.below hb) hU HF2.out HW8.out
      have HTK2 := Lib.hid htk2
      obtain ⟨kk, hkk⟩ : ∃ kk, kk = p.kind := ⟨_, rfl⟩
      rw [← hkk] at k0
      have HPOK := Lib.hid hpo
      have HKK := Lib.hid hkk
      clear hm hpm hnp hnL hvals hpo hkk hx hTe htk2 hbR
      go_upto_region 4 with fail
      go_cut [5] (fun s wx => ∃ tg, s = .pointer (some ⟨tg, 0, none⟩) ∧ wx.heap[tg]? = some (.cells #[.string kk, .slice (some ⟨nb, noff, none⟩) p.name.length nc0, .slice wa p.words.length wc0, .slice da p.decls.length dc0, .slice pa p.parts.length pc0] 38 (0, 0)) ∧ Below wr.heap.size wr wx)
      case first =>
        have hb := (Below.refl wr.heap.size wr).alloc (Nat.le_refl _)
        go_wp2_with fail
        go_meet
        exact ⟨_, rfl, alloc_new _ _, hb _⟩
      case rest =>
      clear k0 k1 k2 k3 k4
      obtain ⟨tg, rfl, htg, hbx⟩ := hcut
      replace hT := hT.below hbx
      clear hbx
      have c1 := (fiveC htg).2.1
      go_upto_region 5 with fail
      go_cut [6] (fun s wx => Tx wc.heap.size wc wx s (64 :: p.name) ∧ wx.heap[tg]? = some (.cells #[.string kk, .slice (some ⟨nb, noff, none⟩) p.name.length nc0, .slice wa p.words.length wc0, .slice da p.decls.length dc0, .slice pa p.parts.length pc0] 38 (0, 0)))
      case first =>
        have hone := Tx.one wc 64 64 rfl
        have c1' := (fiveC (keepA (.cells #[.int .u8 64] 5) htg)).2.1
        have hbA := hAw.trans (hT.bel.mono hAw.size)
        go_wp2_with (at_builtin; refine app_t rfl (.tmp 14) (.tmp 16) rfl rfl hone rfl rfl (HNL.out.below (HNL.out.lt hn0) (hbA.alloc hbA.size _)) (by simp only [List.length_cons, List.length_nil]; omega) ?_; intro v' w1 hT1 ho1; obtain ⟨va1, vn1, vc1, rfl⟩ := hT1.shape)
        go_meet
        exact ⟨hT1, ho1 _ _ _ _ (keepA _ htg) (by decide)⟩
      case rest =>
      obtain ⟨hN, htg2⟩ := hcut
      replace hT := hT.below hN.bel
      clear htg c1
      have htg := htg2
      clear htg2
      obtain ⟨ng, ncap, rfl, _, _, _⟩ := hN.lies
      have hbA := hAw.trans (hT.bel.mono hAw.size)
      have htk2 := fun w1 hb => HTK2.out w1 hb (HUA.out.below HUA.out.lt hb)
      have c0 := (fiveC htg).1
      rcases HPOK.out with hR | hR | ⟨hR, d', hdd, hP⟩
      · have hk : (kk.toList == [114, 117, 108, 101]) = true := by rw [HKK.out]; exact hR.k
        have HD10 := Lib.hid hR.ds.le
        have hd10 := hR.ds.le
        have HDX := Lib.hid (show ∀ d ∈ p.decls, (∀ x ∈ d.2, Fine x (wtoks x)) ∧ d.2.length ≤ 8 from fun d hd => ⟨fun x hx => wtoks_fine ((hR.ds.ok d hd).2.1.vt x hx), (hR.ds.ok d hd).2.1.le⟩)
        have HF1 := Lib.hid (show ∀ x ∈ [p.name], Fine x (stoks x) from fun x hx => by
          rcases List.mem_cons.1 hx with rfl | h
          · exact stoks_fine hR.nm
          · cases h)
        have htk1 := fun (w1 : World) (v1 : Value) (hw : WordsMem w1 v1 [p.name]) (hb : Below wA.heap.size wA w1) => toks_any w1 v1 [p.name] stoks hw (HUA.out.below HUA.out.lt hb) HF1.out (by simp)
        have HE := Lib.hid (show ppieces d (ps.take (q + 1)) = T ++ [(kBegin, [], bars (toks stoks [p.name]))] ++ p.decls.map (pieceOf wtoks) ++ [(kEnd, [], [])] from by
          rw [HTK.out]; simp only [pieces1, hR.k, cond_true, List.append_assoc, List.cons_append, List.nil_append])
        clear hR
        have c1 := (fiveC htg).2.1
        go_wp2_with (first | (go_at_call 28; ((with_reducible refine (htk1 _ _ (words1 (HNM.out.below (hbA))) (hbA.alloc hbA.size _)).mono ?_); rintro e w1 ⟨tv1, rfl, hOW1⟩; have hb1 := hOW1.bel; have hT1 := (hT.below ((Below.refl _ _).alloc (Nat.le_refl _) _)).below hb1; have hH1 := keepB hb1 (keepA _ htg); have hprt1 := part_any w1 ⟨#[98, 101, 103, 105, 110]⟩ (.slice none 0 0) tv1 (toks stoks [p.name]) ⟨_, _, _, rfl⟩ hOW1.words (toks_fit HF1.out) (by have h1 := toks_len HF1.out; have h2 : ([p.name]).length = 1 := rfl; omega); obtain ⟨_, _, _, rfl⟩ := hOW1.shape; clear hOW1)) | (go_at_call 27; ((with_reducible refine hprt1.mono ?_); rintro e w2 ⟨xv2, rfl, hTX2⟩; obtain ⟨_, _, _, rfl⟩ := hTX2.shape; have hT2 := hT1.below hTX2.bel; have hH2 := keepB hTX2.bel hH1; clear hprt1)) | (at_builtin; refine app_b rfl (.tmp 38) (.tmp 44) rfl rfl (hT2.below ((Below.refl _ _).alloc (Nat.le_refl _) _)) rfl (PcSrc.one (alloc_new _ _) (Slp.nilv _ _) ((hTX2.alloc _).slp)) (by first | omega | (simp only [List.length_append, List.length_cons, List.length_nil]; omega) | (simp only [List.length_append, List.length_cons, List.length_nil, List.length_map]; omega)) rfl (by omega) (.inr (by omega)) ?_; intro v' w3q hT3 ho3; obtain ⟨va3, vn3, vc3, rfl⟩ := hT3.shape; have hH3 := ho3.2 _ _ _ _ (keepA _ hH2) (by decide); have c3 := (fiveC hH3).2.2.2.1; have hbA3 := hAw.trans (hT3.bel.mono hAw.size); have hdp := declP_any wA _ hbA3 _ p.decls wtoks HDM.out (HUA.out.below HUA.out.lt hbA3) HDX.out HD10.out; clear hTX2 hT2) | (go_at_call 13; ((with_reducible refine hdp.mono ?_); rintro e w4 ⟨dv4, rfl, hD4⟩; obtain ⟨gd4, od4, cd4, rfl, hsrc4⟩ := hD4.src; have hT4 := hT3.below hD4.bel; have hH4 := keepB hD4.bel hH3; clear hD4)) | (at_builtin; refine app_b rfl (.tmp 46) (.tmp 49) rfl rfl hT4 rfl hsrc4 (by first | omega | (simp only [List.length_append, List.length_cons, List.length_nil]; omega) | (simp only [List.length_append, List.length_cons, List.length_nil, List.length_map]; omega)) (List.length_map ..).symm (by omega) (.inl (by simp)) ?_; intro v' w5q hT5 ho5; obtain ⟨va5, vn5, vc5, rfl⟩ := hT5.shape; have hH5 := ho5.2 _ _ _ _ hH4 (by decide); have hprt5 := part_any w5q ⟨#[101, 110, 100]⟩ (.slice none 0 0) (.slice none 0 0) [] ⟨_, _, _, rfl⟩ ⟨none, 0, rfl, Nat.le_refl _, by unfold maxLen; omega, fun h => absurd h (by simp)⟩ (fun _ h => by cases h) (by simp); clear hT4) | (go_at_call 27; ((with_reducible refine hprt5.mono ?_); rintro e w6 ⟨xv6, rfl, hTX6⟩; obtain ⟨_, _, _, rfl⟩ := hTX6.shape; have hT6 := hT5.below hTX6.bel; have hH6 := keepB hTX6.bel hH5; clear hprt5)) | (at_builtin; refine app_b rfl (.tmp 50) (.tmp 52) rfl rfl (hT6.below ((Below.refl _ _).alloc (Nat.le_refl _) _)) rfl (PcSrc.one (alloc_new _ _) (Slp.nilv _ _) ((hTX6.alloc _).slp)) (by first | omega | (simp only [List.length_append, List.length_cons, List.length_nil]; omega) | (simp only [List.length_append, List.length_cons, List.length_nil, List.length_map]; omega)) rfl (by omega) (.inr (by omega)) ?_; intro v' w99q hT99 ho99; obtain ⟨va99, vn99, vc99, rfl⟩ := hT99.shape; have hH99 := ho99.2 _ _ _ _ (keepA _ hH6) (by decide)))
        have HT99 := Lib.hid hT99
        clear hT99
        go_roundg (ps.length - (q + 1))
        case measure => have h1 := HK.out; have h2 := HLT.out; omega
        case rel => exact ⟨q + 1, HLT.out, rfl, by go_num, by rw [HE.out]; exact HT99.out⟩
      · have hk : (kk.toList == [97, 116]) = true := by rw [HKK.out]; exact hR.k
        have hk0 : (kk.toList == [114, 117, 108, 101]) = false := by rw [beq_iff_eq.1 hk]; decide
        have HE := Lib.hid (show ppieces d (ps.take (q + 1)) = T ++ [(kAtk, 64 :: p.name, bars (toks wtoks p.words))] from by
          rw [HTK.out]; simp only [pieces1, hR.k, kinds.2.2 hR.k, cond_true, cond_false])
        clear hR
        have c2 := (fiveC htg).2.2.1
        go_wp2_with (first | (go_at_call 28; ((with_reducible refine (htk2 _ hbA).mono ?_); rintro e w1 ⟨tv1, rfl, hOW1⟩; have hb1 := hOW1.bel; have hT1 := (hT).below hb1; have hH1 := keepB hb1 (htg); have hN1 := hN.below hb1; have hprt1 := part_any w1 ⟨#[97, 116]⟩ (.slice (some ⟨ng, 0, none⟩) (p.name.length + 1) ncap) tv1 (toks wtoks p.words) ⟨_, _, _, rfl⟩ hOW1.words (toks_fit HF2.out) (by have h1 := toks_len HF2.out; have h2 := HW8.out; omega); obtain ⟨_, _, _, rfl⟩ := hOW1.shape; clear hOW1)) | (go_at_call 27; ((with_reducible refine hprt1.mono ?_); rintro e w2 ⟨xv2, rfl, hTX2⟩; obtain ⟨_, _, _, rfl⟩ := hTX2.shape; have hT2 := hT1.below hTX2.bel; have hH2 := keepB hTX2.bel hH1; have hN2 := hN1.below hTX2.bel; clear hprt1)) | (at_builtin; refine app_b rfl (.tmp 56) (.tmp 62) rfl rfl (hT2.below ((Below.refl _ _).alloc (Nat.le_refl _) _)) rfl (PcSrc.one (alloc_new _ _) ((hN2.alloc _).t.slp) ((hTX2.alloc _).slp)) (by first | omega | (simp only [List.length_append, List.length_cons, List.length_nil]; omega) | (simp only [List.length_append, List.length_cons, List.length_nil, List.length_map]; omega)) rfl (by omega) (.inr (by omega)) ?_; intro v' w99q hT99 ho99; obtain ⟨va99, vn99, vc99, rfl⟩ := hT99.shape; have hH99 := ho99.2 _ _ _ _ (keepA _ hH2) (by decide)))
        have HT99 := Lib.hid hT99
        clear hT99
        go_roundg (ps.length - (q + 1))
        case measure => have h1 := HK.out; have h2 := HLT.out; omega
        case rel => exact ⟨q + 1, HLT.out, rfl, by go_num, by rw [HE.out]; exact HT99.out⟩
      · have hk : (kk.toList == [98, 108, 111, 99, 107]) = true := by rw [HKK.out]; exact hR.k
        have hk0 : (kk.toList == [114, 117, 108, 101]) = false := by rw [beq_iff_eq.1 hk]; decide
        have hk1 : (kk.toList == [97, 116]) = false := by rw [beq_iff_eq.1 hk]; decide
        have HIH := Lib.hid (HI.out d' hdd)
        have HPO := Lib.hid hP
        have hbl : (ppieces d' p.parts).length ≤ 266200 := ppieces_len hP (by omega)
        have HE := Lib.hid (show ppieces d (ps.take (q + 1)) = T ++ [(kBeginAt, 64 :: p.name, bars (toks wtoks p.words))] ++ ppieces d' p.parts ++ [(kEndAt, [], [])] from by
          rw [HTK.out]; subst hdd; simp only [pieces1, bodyP, kinds.2.1 hR.k, cond_false, List.append_assoc, List.cons_append, List.nil_append])
        clear hR hP hdd
        have c2 := (fiveC htg).2.2.1
        go_wp2_with (first | (go_at_call 28; ((with_reducible refine (htk2 _ hbA).mono ?_); rintro e w1 ⟨tv1, rfl, hOW1⟩; have hb1 := hOW1.bel; have hT1 := (hT).below hb1; have hH1 := keepB hb1 (htg); have hN1 := hN.below hb1; have hprt1 := part_any w1 ⟨#[98, 101, 103, 105, 110, 32, 97, 116]⟩ (.slice (some ⟨ng, 0, none⟩) (p.name.length + 1) ncap) tv1 (toks wtoks p.words) ⟨_, _, _, rfl⟩ hOW1.words (toks_fit HF2.out) (by have h1 := toks_len HF2.out; have h2 := HW8.out; omega); obtain ⟨_, _, _, rfl⟩ := hOW1.shape; clear hOW1)) | (go_at_call 27; ((with_reducible refine hprt1.mono ?_); rintro e w2 ⟨xv2, rfl, hTX2⟩; obtain ⟨_, _, _, rfl⟩ := hTX2.shape; have hT2 := hT1.below hTX2.bel; have hH2 := keepB hTX2.bel hH1; have hN2 := hN1.below hTX2.bel; clear hprt1)) | (at_builtin; refine app_b rfl (.tmp 20) (.tmp 26) rfl rfl (hT2.below ((Below.refl _ _).alloc (Nat.le_refl _) _)) rfl (PcSrc.one (alloc_new _ _) ((hN2.alloc _).t.slp) ((hTX2.alloc _).slp)) (by first | omega | (simp only [List.length_append, List.length_cons, List.length_nil]; omega) | (simp only [List.length_append, List.length_cons, List.length_nil, List.length_map]; omega)) rfl (by omega) (.inr (by omega)) ?_; intro v' w3q hT3 ho3; obtain ⟨va3, vn3, vc3, rfl⟩ := hT3.shape; have hH3 := ho3.2 _ _ _ _ (keepA _ hH2) (by decide); have c4 := (fiveC hH3).2.2.2.2; have hbA3 := hAw.trans (hT3.bel.mono hAw.size); have hih := HIH.out wA _ hbA3 _ p.parts HPM.out HPO.out HUA.out; clear hTX2 hT2 hN2) | (go_at_call 9; ((with_reducible refine hih.mono ?_); rintro e w4 ⟨dv4, rfl, hD4⟩; obtain ⟨gd4, od4, cd4, rfl, hsrc4⟩ := hD4.src; have hT4 := hT3.below hD4.bel; have hH4 := keepB hD4.bel hH3; clear hD4)) | (at_builtin; refine app_b rfl (.tmp 28) (.tmp 31) rfl rfl hT4 rfl hsrc4 (by first | omega | (simp only [List.length_append, List.length_cons, List.length_nil]; omega) | (simp only [List.length_append, List.length_cons, List.length_nil, List.length_map]; omega)) rfl (by omega) (.inl (by simp)) ?_; intro v' w5q hT5 ho5; obtain ⟨va5, vn5, vc5, rfl⟩ := hT5.shape; have hH5 := ho5.2 _ _ _ _ hH4 (by decide); have hprt5 := part_any w5q ⟨#[101, 110, 100, 32, 97, 116]⟩ (.slice none 0 0) (.slice none 0 0) [] ⟨_, _, _, rfl⟩ ⟨none, 0, rfl, Nat.le_refl _, by unfold maxLen; omega, fun h => absurd h (by simp)⟩ (fun _ h => by cases h) (by simp); clear hT4) | (go_at_call 27; ((with_reducible refine hprt5.mono ?_); rintro e w6 ⟨xv6, rfl, hTX6⟩; obtain ⟨_, _, _, rfl⟩ := hTX6.shape; have hT6 := hT5.below hTX6.bel; have hH6 := keepB hTX6.bel hH5; clear hprt5)) | (at_builtin; refine app_b rfl (.tmp 32) (.tmp 34) rfl rfl (hT6.below ((Below.refl _ _).alloc (Nat.le_refl _) _)) rfl (PcSrc.one (alloc_new _ _) (Slp.nilv _ _) ((hTX6.alloc _).slp)) (by first | omega | (simp only [List.length_append, List.length_cons, List.length_nil]; omega) | (simp only [List.length_append, List.length_cons, List.length_nil, List.length_map]; omega)) rfl (by omega) (.inr (by omega)) ?_; intro v' w99q hT99 ho99; obtain ⟨va99, vn99, vc99, rfl⟩ := hT99.shape; have hH99 := ho99.2 _ _ _ _ (keepA _ hH6) (by decide)))
        have HT99 := Lib.hid hT99
        clear hT99
        go_roundg (ps.length - (q + 1))
        case measure => have h1 := HK.out; have h2 := HLT.out; omega
        case rel => exact ⟨q + 1, HLT.out, rfl, by go_num, by rw [HE.out]; exact HT99.out⟩
    · have hq' : q = ps.length := by omega
      have HT := Lib.hid hT
      subst hq'
      go_wp2
      go_ret
      have := HT.out
      rw [List.take_length] at this
      exact ⟨_, rfl, this⟩
theorem pieces_any (d : Nat) (hd : d ≤ 3) : PiecesP d := by
  induction d with
  | zero => exact pieces_step 0 hd (fun _ h => by omega)
  | succ d ih => exact pieces_step (d + 1) hd (fun d' h => by
      obtain rfl : d = d' := by omega
      exact ih (by omega))
end Go.Proofs.YtlglijnaeaonpaaGreatDoor.Css
