/- The reference's looks at kinds of tokens: whether a text stands in another one; whether brackets match. -/
import Derived.Test.YtlglijnaeaonpaaGreatDoorNq
import Derived.Test.YtlglijnaeaonpaaGreatDoorMy
set_option linter.all false
/- The reference's looks at kinds of tokens: whether a text stands in another one; whether brackets match. -/
namespace Go.Proofs.YtlglijnaeaonpaaGreatDoor.Css
open Go.RowKit

/-- A text stands in another one. -/
def subAt (s p : ByteArray) (q : Nat) : Bool := (s.extract q (q + p.size)).toList == p.toList
def hasT (s p : ByteArray) : Bool := (List.range (s.size + 1)).any fun q => decide (q + p.size ≤ s.size) && subAt s p q
theorem hasT_yes {s p : ByteArray} (q : Nat) (h1 : q + p.size ≤ s.size) (h2 : subAt s p q = true) : hasT s p = true := by
  rw [hasT, List.any_eq_true]
  exact ⟨q, List.mem_range.2 (by omega), by rw [decide_eq_true h1, h2]; rfl⟩
theorem hasT_no {s p : ByteArray} (h : ∀ q, q + p.size ≤ s.size → subAt s p q = false) : hasT s p = false := by
  rw [hasT, List.any_eq_false]
  intro q _ h'
  simp only [Bool.and_eq_true, decide_eq_true_eq] at h'
  rw [h q h'.1] at h'
  exact absurd h'.2 Bool.false_ne_true

set_option maxRecDepth 100000 in
set_option maxHeartbeats 1000000 in
theorem hastext_any (w : World) (s p : ByteArray) (hs : s.size ≤ 100000) (hp : p.size ≤ 100000) : Calls Tryz.prog 69 #[.string s, .string p] w fun e w' => e = .returned (.bool (hasT s p)) ∧ w = w' := by
  go_enter Tryz.func69, Tryz.ntmps69
  go_wp2
  go_loopg [5] (s.size + 1) (fun k i wr => ∃ q : Nat, q ≤ s.size + 1 ∧ k = s.size + 1 - q ∧ i = .int .i64 q ∧ wr = w ∧ ∀ j, j < q → j + p.size ≤ s.size → subAt s p j = false)
  case atStart => exact ⟨0, Nat.zero_le _, rfl, rfl, rfl, fun _ h => by omega⟩
  case round =>
    obtain ⟨q, hq, hk, rfl, rfl, hall⟩ := hrel
    have HA := Lib.hid hall
    clear hall
    by_cases hle : q + p.size ≤ s.size
    · cases hs : subAt s p q with
      | true =>
        have H := Lib.hid (hasT_yes q hle hs)
        rw [subAt] at hs
        go_wp2
        go_ret
        exact ⟨ret_bool H.out.symm, rfl⟩
      | false =>
        have H := Lib.hid hs
        rw [subAt] at hs
        go_wp2
        go_roundg (s.size + 1 - (q + 1))
        case measure => omega
        case rel =>
          refine ⟨q + 1, by omega, rfl, by go_num, rfl, fun j hj hjl => ?_⟩
          by_cases e : j = q
          · subst e; exact H.out
          · exact HA.out j (by omega) hjl
    · have H := Lib.hid (show hasT s p = false from hasT_no fun j hj => HA.out j (by omega) hj)
      go_wp2
      go_ret
      exact ⟨ret_bool H.out.symm, rfl⟩

theorem flat_get {α : Type} {f : α → List Value} {m : Nat} (hf : ∀ a, (f a).length = m) (l : List α) (i : Nat) (hi : i < l.length) (j : Nat) (hj : j < m) : (l.flatMap f)[i * m + j]? = (f l[i])[j]? := by
  induction l generalizing i with
  | nil => simp at hi
  | cons a l ih =>
    match i with
    | 0 => rw [List.flatMap_cons, Nat.zero_mul, Nat.zero_add, List.getElem?_append_left (by rw [hf]; exact hj)]; rfl
    | i + 1 =>
      rw [List.flatMap_cons, List.getElem?_append_right (by rw [hf, Nat.add_mul]; omega), hf, show (i + 1) * m + j - m = i * m + j by rw [Nat.add_mul]; omega]
      exact ih i (by simpa using hi)
theorem flat_len {α : Type} {f : α → List Value} {m : Nat} (hf : ∀ a, (f a).length = m) (l : List α) : (l.flatMap f).length = l.length * m := by
  induction l with
  | nil => simp
  | cons a l ih => rw [List.flatMap_cons, List.length_append, hf, ih, List.length_cons, Nat.add_mul]; omega

/-- Tokens in memory: their slice's value. -/
def TokMem (w : World) (v : Value) (b off cap : Nat) (ts : List (Int × Nat × Nat)) : Prop :=
  ∃ a c, v = .slice a ts.length c ∧ ts.length ≤ c ∧ c ≤ maxLen ∧ (0 < ts.length → ∃ g o, a = some ⟨g, o, none⟩ ∧ g < w.heap.size ∧ ∀ i (h : i < ts.length), ∀ j u, (tcell b off cap ts[i])[j]? = some u → w.cell? ⟨g, o + i * 6 + j, none⟩ = some u)
theorem TokMem.below {w w' : World} {v : Value} {b off cap : Nat} {ts : List (Int × Nat × Nat)} (h : TokMem w v b off cap ts) (hb : Below w.heap.size w w') : TokMem w' v b off cap ts := by
  obtain ⟨a, c, h1, h2, h3, h4⟩ := h
  refine ⟨a, c, h1, h2, h3, fun h0 => ?_⟩
  obtain ⟨g, o, e, hl, hc⟩ := h4 h0
  exact ⟨g, o, e, Nat.lt_of_lt_of_le hl hb.size, fun i hi j u hj => (hb.cell (p := ⟨g, o + i * 6 + j, none⟩) hl).trans (hc i hi j u hj)⟩
theorem Own.tokMem {w : World} {B b off cap : Nat} {v : Value} {ts : List (Int × Nat × Nat)} (h : Own w B 55 6 v ts.length (ts.flatMap (tcell b off cap))) : TokMem w v b off cap ts := by
  rcases h.2 with ⟨rfl, hn⟩ | ⟨g, o, c, cur, rfl, hB, hg, hs, hc, hn, hm⟩
  · refine ⟨none, 0, by rw [hn], by omega, by unfold maxLen; omega, fun h0 => by omega⟩
  · refine ⟨_, c, rfl, hn, hm, fun _ => ⟨g, o, rfl, (Array.getElem?_eq_some_iff.1 hg).1, fun i hi j u hj => ?_⟩⟩
    have hj6 : j < 6 := (List.getElem?_eq_some_iff.1 hj).1
    rw [cell_at hg, Nat.add_assoc]
    exact hc _ u (by rw [flat_get (m := 6) (fun _ => rfl) ts i hi j hj6]; exact hj)
/-- A token's cells, one by one. -/
structure TCells (w : World) (g o : Nat) (b off cap : Nat) (k : Int × Nat × Nat) (i : Nat) : Prop where
  c0 : w.cell? ⟨g, o + i * 6, none⟩ = some (.string (knm k.1))
  c1 : w.cell? ⟨g, o + i * 6 + 1, none⟩ = some (.slice (some ⟨b, off + k.2.1, none⟩) (k.2.2 - k.2.1) (cap - k.2.1))
  c2 : w.cell? ⟨g, o + i * 6 + 2, none⟩ = some (.slice none 0 0)
  c3 : w.cell? ⟨g, o + i * 6 + 3, none⟩ = some (.slice none 0 0)
  c4 : w.cell? ⟨g, o + i * 6 + 4, none⟩ = some (.slice none 0 0)
  c5 : w.cell? ⟨g, o + i * 6 + 5, none⟩ = some (.string ⟨#[]⟩)
theorem TokMem.pos {w : World} {v : Value} {b off cap : Nat} {ts : List (Int × Nat × Nat)} (h : TokMem w v b off cap ts) (h0 : 0 < ts.length) :
    ∃ g o c, v = .slice (some ⟨g, o, none⟩) ts.length c ∧ ts.length ≤ c ∧ c ≤ maxLen ∧ ∀ w', Below w.heap.size w w' → ∀ i (hi : i < ts.length), TCells w' g o b off cap ts[i] i := by
  obtain ⟨a, c, rfl, h1, h2, h4⟩ := h
  obtain ⟨g, o, rfl, hl, hc⟩ := h4 h0
  refine ⟨g, o, c, rfl, h1, h2, fun w' hb i hi => ?_⟩
  have hc' := fun j u hj => (hb.cell (p := ⟨g, o + i * 6 + j, none⟩) hl).trans (hc i hi j u hj)
  exact ⟨hc' 0 _ rfl, hc' 1 _ rfl, hc' 2 _ rfl, hc' 3 _ rfl, hc' 4 _ rfl, hc' 5 _ rfl⟩

theorem kcases {tt : Int} (h1 : 1 ≤ tt) (h2 : tt ≤ 32) : tt = 1 ∨ tt = 2 ∨ tt = 3 ∨ tt = 4 ∨ tt = 5 ∨ tt = 6 ∨ tt = 7 ∨ tt = 8 ∨ tt = 9 ∨ tt = 10 ∨ tt = 11 ∨ tt = 12 ∨ tt = 13 ∨ tt = 14 ∨ tt = 15 ∨ tt = 16 ∨ tt = 17 ∨
    tt = 18 ∨ tt = 19 ∨ tt = 20 ∨ tt = 21 ∨ tt = 22 ∨ tt = 23 ∨ tt = 24 ∨ tt = 25 ∨ tt = 26 ∨ tt = 27 ∨ tt = 28 ∨ tt = 29 ∨ tt = 30 ∨ tt = 31 ∨ tt = 32 := by omega
/-- Names of other kinds than brackets. -/
theorem knm_other {tt : Int} (h1 : 1 ≤ tt) (h2 : tt ≤ 32) (n28 : tt ≠ 28) (n2 : tt ≠ 2) (n26 : tt ≠ 26) (n29 : tt ≠ 29) (n27 : tt ≠ 27) :
    ((knm tt).toList == [40]) = false ∧ ((knm tt).toList == [102, 117, 110, 99, 116, 105, 111, 110]) = false ∧ ((knm tt).toList == [91]) = false ∧ ((knm tt).toList == [41]) = false ∧ ((knm tt).toList == [93]) = false := by
  rw [ByteArray.toList_eq]
  rcases kcases h1 h2 with rfl | rfl | rfl | rfl | rfl | rfl | rfl | rfl | rfl | rfl | rfl | rfl | rfl | rfl | rfl | rfl | rfl | rfl | rfl | rfl | rfl | rfl | rfl | rfl | rfl | rfl | rfl | rfl | rfl | rfl | rfl | rfl
  all_goals first | omega | exact ⟨by decide, by decide, by decide, by decide, by decide⟩

/-- The brackets that have been opened in the first tokens. -/
def Cl (ts : List (Int × Nat × Nat)) (q d : Nat) : Prop := (∀ k ∈ ts, k.1 ≠ 24 ∧ k.1 ≠ 31 ∧ k.1 ≠ 30 ∧ k.1 ≠ 0) → ∀ l, Bal d l → Bal 0 (ts.take q ++ l)
theorem Cl.step {ts : List (Int × Nat × Nat)} {q d d' : Nat} (h : Cl ts q d) (hq : q < ts.length) (hl : ts[q].1 ≠ 24 ∧ ts[q].1 ≠ 31 ∧ ts[q].1 ≠ 30 ∧ ts[q].1 ≠ 0 → Lv d ts[q].1 d') : Cl ts (q + 1) d' := by
  intro hk l hb
  rw [List.take_succ_eq_append_getElem hq, List.append_assoc]
  exact h hk _ (.cons d d' _ _ (hl (hk _ (List.getElem_mem hq))) hb)

theorem info9 : (Tryz.prog.info? 9).map (fun i => (i.zero, i.size, i.bytes)) = some (some (.string ⟨#[]⟩), 1, 16) := by kernel_rfl

/-- While brackets are matched. -/
def ClRel (w : World) (ts : List (Int × Nat × Nat)) (v : Value) (q : Nat) (wr : World) (st : List Int) : Prop :=
  Own wr w.heap.size 9 1 v st.length (st.map fun c => .string (knm c)) ∧ Below w.heap.size w wr ∧ (∀ c ∈ st, c = 29 ∨ c = 27) ∧ Cl ts q st.length ∧ st.length ≤ q

/-- A bracket is opened. -/
theorem ClRel.push {w wx w4 : World} {ts : List (Int × Nat × Nat)} {v v' : Value} {q : Nat} {st : List Int} {o : Obj} (hown : Own wx w.heap.size 9 1 v st.length (st.map fun c => .string (knm c))) (hbel : Below w.heap.size w wx)
    (hst : ∀ c ∈ st, c = 29 ∨ c = 27) (hsl : st.length ≤ q) (hlt : q < ts.length) (hcl : Cl ts q st.length) (c : Int) (hc : c = 29 ∨ c = 27) (htt : ts[q].1 = 28 ∨ ts[q].1 = 26 ∨ ts[q].1 = 2)
    (hown4 : Own w4 w.heap.size 9 1 v' (st.length + 1) (st.map (fun c => .string (knm c)) ++ [.string (knm c)])) (hgrow : (wx.alloc o).grownBy w4 v.ownBlock) : ClRel w ts v' (q + 1) w4 (st ++ [c]) := by
  refine ⟨by rw [List.length_append, List.map_append]; exact hown4, (hbel.alloc hbel.size o).grown hgrow (by have := hbel.size; simp; omega) (fun k hk => (hown.lt k hk).1), fun d hd => ?_, ?_, by rw [List.length_append]; simp; omega⟩
  · rcases List.mem_append.1 hd with hd | hd
    · exact hst d hd
    · obtain rfl := List.mem_singleton.1 hd; exact hc
  · rw [List.length_append]
    exact hcl.step hlt fun _ => .op _ _ htt

def ClPost (w : World) (ts : List (Int × Nat × Nat)) (e : Ending) (w' : World) : Prop := ∃ r, e = .returned (.bool r) ∧ Below w.heap.size w w' ∧ (r = true → Cl ts ts.length 0)

set_option maxRecDepth 100000 in
set_option maxHeartbeats 4000000 in
theorem closes_any (w : World) (v : Value) (b off cap : Nat) (ts : List (Int × Nat × Nat)) (h : TokMem w v b off cap ts) (hk : ∀ k ∈ ts, 1 ≤ k.1 ∧ k.1 ≤ 32) (hlen : ts.length ≤ 2147483648) :
    Calls Tryz.prog 70 #[v] w (ClPost w ts) := by
  obtain ⟨i0, hi, hz0, hz1, hz2⟩ := info_parts info9
  rcases Nat.eq_zero_or_pos ts.length with h0 | h0
  · obtain ⟨a, c, rfl, _, _, _⟩ := h
    rw [h0]
    have HR := Lib.hid (show Cl ts ts.length 0 from fun _ l hl => by rw [List.eq_nil_of_length_eq_zero h0]; exact hl)
    clear h0 hk hlen
    go_enter Tryz.func70, Tryz.ntmps70
    go_wp2
    refine wp_loop_once fun _ => ?_
    go_wp2
    go_ret
    exact ⟨true, rfl, (Below.refl _ _).alloc (Nat.le_refl _) _, fun _ => HR.out⟩
  obtain ⟨g, o, c, rfl, hc1, hc2, hcell⟩ := h.pos h0
  have HM := Lib.hid hcell
  have HKD := Lib.hid hk
  unfold maxLen at hc2
  clear h hk hcell
  go_enter Tryz.func70, Tryz.ntmps70
  go_wp2
  go_loopg [3, 9] ts.length (fun k v3 i wr => ∃ q st, q ≤ ts.length ∧ k = ts.length - q ∧ i = .int .i64 q ∧ ClRel w ts v3 q wr st)
  case atStart =>
    refine ⟨0, [], Nat.zero_le _, rfl, rfl, ⟨rfl, .inr ⟨w.heap.size, 0, 0, #[], rfl, Nat.le_refl _, alloc_new _ _, by simp, fun j u hj => by simp at hj, Nat.le_refl _, by unfold maxLen; omega⟩⟩, (Below.refl _ _).alloc (Nat.le_refl _) _, fun c hc => (by cases hc), fun _ l hl => by simpa using hl, Nat.le_refl _⟩
  case round =>
    obtain ⟨q, st, hq, hk, rfl, hown, hbel, hst, hcl, hsl⟩ := hrel
    have HK := Lib.hid hk
    have HB := Lib.hid (show _ ∧ _ ∧ _ from ⟨hbel, hst, hcl⟩)
    obtain ⟨oa, on, oc, rfl⟩ : ∃ a n c, u3 = .slice a n c := by
      rcases hown.2 with ⟨h1, _⟩ | ⟨_, _, _, _, h1, _⟩ <;> exact ⟨_, _, _, h1⟩
    have hon : on = st.length := by
      rcases hown.2 with ⟨h1, h2⟩ | ⟨_, _, _, _, h1, _⟩
      · cases h1; exact h2.symm
      · cases h1; rfl
    subst hon
    clear hk hst hcl
    by_cases hlt : q < ts.length
    · obtain ⟨k0, k1, k2, k3, k4, k5⟩ := HM.out wr hbel q hlt
      have htt := HKD.out _ (List.getElem_mem hlt)
      obtain ⟨tt, hte⟩ : ∃ tt : Int, tt = ts[q].1 := ⟨_, rfl⟩
      rw [← hte] at k0 htt
      have HTE := Lib.hid hte
      clear hte
      have HLT := Lib.hid hlt
      go_upto_region 4 with fail
      go_cut [5] (fun s wx => ∃ tg, s = .pointer (some ⟨tg, 0, none⟩) ∧ wx.cell? ⟨tg, 0, none⟩ = some (.string (knm tt)) ∧ Below wr.heap.size wr wx)
      case first =>
        have hb := (Below.refl wr.heap.size wr).alloc (Nat.le_refl _)
        go_wp2_with fail
        go_meet
        exact ⟨_, rfl, by rw [World.cell?_alloc_new]; rfl, hb _⟩
      case rest =>
      clear k0 k1 k2 k3 k4 k5
      obtain ⟨tg, rfl, kx, hbx⟩ := hcut
      have hownx := hown.keep fun k hk => hbx.block k (hown.lt k hk).2.1
      have HBX := Lib.hid (hbel.trans (hbx.mono hbel.size))
      clear hown hbel hbx
      by_cases hc : tt = 28
      · skip
        have e : knm tt = ⟨#[40]⟩ := by rw [hc]; rfl
        rw [e] at kx
        have HC := Lib.hid hc
        clear e hc
        go_wp2_with (first | (at_builtin; refine wpList_append_Own _ rfl _ _ 73 rfl w.heap.size 9 i0 (.string ⟨#[]⟩) 1 16 Tryz.underlying73 hi hz0 hz1 hz2 rfl (by decide) _ _ _ rfl (hownx.keep fun k hk => (Below.heap_alloc _ _ _ (hownx.lt k hk).2.1)) ⟨wc.heap.size, 0, none⟩ 1 1 [.string ⟨#[41]⟩] rfl rfl ?c1 ?c2 ?c3 ?c4 ?c5 ?_))
        case c1 =>
          intro j u hj
          match j, hj with
          | 0, hj => simp at hj; subst hj; simp [Addr.add]
        case c2 => intro u hu; simp at hu; subst hu; rfl
        case c3 => unfold maxLen; omega
        case c4 => omega
        case c5 => have := HBX.out.size; simp; omega
        intro v' w4 hown4 hgrow
        have HE := Lib.hid (ClRel.push hownx HBX.out HB.out.2.1 hsl HLT.out HB.out.2.2 29 (by decide) (.inl (HTE.out.symm.trans HC.out)) hown4 hgrow)
        clear hown4 hgrow hownx
        go_wp2
        go_roundg (ts.length - (q + 1))
        case measure => have h1 := HK.out; have h2 := HLT.out; omega
        case rel => exact ⟨q + 1, _, HLT.out, rfl, by go_num, HE.out⟩
      by_cases hc2 : tt = 2
      · have hc := hc2
        have e : knm tt = ⟨#[102, 117, 110, 99, 116, 105, 111, 110]⟩ := by rw [hc]; rfl
        rw [e] at kx
        have HC := Lib.hid hc
        clear e hc
        go_wp2_with (first | (at_builtin; refine wpList_append_Own _ rfl _ _ 73 rfl w.heap.size 9 i0 (.string ⟨#[]⟩) 1 16 Tryz.underlying73 hi hz0 hz1 hz2 rfl (by decide) _ _ _ rfl (hownx.keep fun k hk => (Below.heap_alloc _ _ _ (hownx.lt k hk).2.1)) ⟨wc.heap.size, 0, none⟩ 1 1 [.string ⟨#[41]⟩] rfl rfl ?c1 ?c2 ?c3 ?c4 ?c5 ?_))
        case c1 =>
          intro j u hj
          match j, hj with
          | 0, hj => simp at hj; subst hj; simp [Addr.add]
        case c2 => intro u hu; simp at hu; subst hu; rfl
        case c3 => unfold maxLen; omega
        case c4 => omega
        case c5 => have := HBX.out.size; simp; omega
        intro v' w4 hown4 hgrow
        have HE := Lib.hid (ClRel.push hownx HBX.out HB.out.2.1 hsl HLT.out HB.out.2.2 29 (by decide) (.inr (.inr (HTE.out.symm.trans HC.out))) hown4 hgrow)
        clear hown4 hgrow hownx
        go_wp2
        go_roundg (ts.length - (q + 1))
        case measure => have h1 := HK.out; have h2 := HLT.out; omega
        case rel => exact ⟨q + 1, _, HLT.out, rfl, by go_num, HE.out⟩
      by_cases hc3 : tt = 26
      · have hc := hc3
        have e : knm tt = ⟨#[91]⟩ := by rw [hc]; rfl
        rw [e] at kx
        have HC := Lib.hid hc
        clear e hc
        go_wp2_with (first | (at_builtin; refine wpList_append_Own _ rfl _ _ 73 rfl w.heap.size 9 i0 (.string ⟨#[]⟩) 1 16 Tryz.underlying73 hi hz0 hz1 hz2 rfl (by decide) _ _ _ rfl (hownx.keep fun k hk => (Below.heap_alloc _ _ _ (hownx.lt k hk).2.1)) ⟨wc.heap.size, 0, none⟩ 1 1 [.string ⟨#[93]⟩] rfl rfl ?c1 ?c2 ?c3 ?c4 ?c5 ?_))
        case c1 =>
          intro j u hj
          match j, hj with
          | 0, hj => simp at hj; subst hj; simp [Addr.add]
        case c2 => intro u hu; simp at hu; subst hu; rfl
        case c3 => unfold maxLen; omega
        case c4 => omega
        case c5 => have := HBX.out.size; simp; omega
        intro v' w4 hown4 hgrow
        have HE := Lib.hid (ClRel.push hownx HBX.out HB.out.2.1 hsl HLT.out HB.out.2.2 27 (by decide) (.inr (.inl (HTE.out.symm.trans HC.out))) hown4 hgrow)
        clear hown4 hgrow hownx
        go_wp2
        go_roundg (ts.length - (q + 1))
        case measure => have h1 := HK.out; have h2 := HLT.out; omega
        case rel => exact ⟨q + 1, _, HLT.out, rfl, by go_num, HE.out⟩
      by_cases hc4 : tt = 29
      · have hc := hc4
        have e : knm tt = ⟨#[41]⟩ := by rw [hc]; rfl
        rw [e] at kx
        have HC := Lib.hid hc
        clear e hc
        rcases List.eq_nil_or_concat st with rfl | ⟨st2, c, rfl⟩
        · have z0 : (([] : List Int).length == 0) = true := rfl
          simp only [List.length_nil] at hownx ⊢
          clear z0
          go_wp2
          go_quiet (fail)
          go_wp2
          go_ret
          exact ⟨false, rfl, below_drewN HBX.out _, fun h => by cases h⟩
        · rw [List.concat_eq_append] at hownx HB hsl ⊢
          obtain ⟨g3, o3, hoa⟩ : ∃ g3 o3, oa = some ⟨g3, o3, none⟩ := by
            rcases hownx.2 with ⟨h1, h2⟩ | ⟨_, _, _, _, h1, _⟩
            · simp at h2
            · cases h1; exact ⟨_, _, rfl⟩
          subst hoa
          have hlast := Own.cells hownx st2.length (.string (knm c)) (by simp)
          rw [Addr.add_lit] at hlast
          obtain ⟨d, hd⟩ : ∃ d, d = (st2 ++ [c]).length := ⟨_, rfl⟩
          have hd1 : d = st2.length + 1 := by rw [hd]; simp
          have hlast' : wc.cell? ⟨g3, o3 + (d - 1), none⟩ = some (.string (knm c)) := by rw [hd1]; exact hlast
          have hcc := HB.out.2.1 c (by simp)
          have htk := Own.take hownx st2.length (by simp)
          have hcap : d ≤ oc := by
            rcases hownx.2 with ⟨h1, h2⟩ | ⟨_, _, _, _, h1, _, _, _, _, h7, h8⟩
            · simp at h2
            · cases h1; rw [hd]; exact h7
          have hcap2 : oc ≤ maxLen := by
            rcases hownx.2 with ⟨h1, h2⟩ | ⟨_, _, _, _, h1, _, _, _, _, h7, h8⟩
            · simp at h2
            · cases h1; exact h8
          rw [← hd] at hsl ⊢
          have HTK := Lib.hid htk
          have HD := Lib.hid hd1
          unfold maxLen at hcap2
          have d0 : ((d : Int) == 0) = false := by rw [beq_eq_false_iff_ne]; omega
          have s1 : IntKind.i64.wrap ((d : Int) - 1) = (d : Int) - 1 := IntWalk.i64_in _ (by omega)
          have s2 : (0 : Int) ≤ (d : Int) - 1 := by omega
          have s3 : (d : Int) - 1 < (d : Int) := by omega
          have s4 : ((d : Int) - 1).toNat = d - 1 := by omega
          have s5 : (1 : Int) ≤ (d : Int) := by omega
          have s6 : 1 ≤ d := by omega
          have s7 : (d : Int) - 1 ≤ (oc : Int) := by omega
          clear hlast htk hd hd1 hownx
          rcases hcc with rfl | rfl
          · rw [show knm 29 = ⟨#[41]⟩ from rfl] at hlast'
            go_wp2
            go_quiet (fail)
            go_wp2
            have HE := Lib.hid (show ClRel w ts (.slice (some ⟨g3, o3, none⟩) (d - 1) oc) (q + 1) (wc.drewN nq) st2 from by
              have h1 := HTK.out
              rw [Nat.mul_one, List.map_append, List.take_left' (by simp)] at h1
              refine ⟨by rw [HD.out]; exact h1, below_drewN HBX.out _, fun c hc => HB.out.2.1 c (by simp [hc]), ?_, by have := HD.out; omega⟩
              have h2 := HB.out.2.2
              rw [List.length_append] at h2
              exact h2.step HLT.out fun _ => .cl _ _ (.inl (HTE.out.symm.trans HC.out)))
            go_roundg (ts.length - (q + 1))
            case measure => have h1 := HK.out; have h2 := HLT.out; omega
            case rel => exact ⟨q + 1, st2, HLT.out, rfl, by go_num, HE.out⟩
          · rw [show knm 27 = ⟨#[93]⟩ from rfl] at hlast'
            go_wp2
            go_quiet (fail)
            go_wp2
            go_ret
            exact ⟨false, rfl, below_drewN HBX.out _, fun h => by cases h⟩
      by_cases hc5 : tt = 27
      · have hc := hc5
        have e : knm tt = ⟨#[93]⟩ := by rw [hc]; rfl
        rw [e] at kx
        have HC := Lib.hid hc
        clear e hc
        rcases List.eq_nil_or_concat st with rfl | ⟨st2, c, rfl⟩
        · have z0 : (([] : List Int).length == 0) = true := rfl
          simp only [List.length_nil] at hownx ⊢
          clear z0
          go_wp2
          go_quiet (fail)
          go_wp2
          go_ret
          exact ⟨false, rfl, below_drewN HBX.out _, fun h => by cases h⟩
        · rw [List.concat_eq_append] at hownx HB hsl ⊢
          obtain ⟨g3, o3, hoa⟩ : ∃ g3 o3, oa = some ⟨g3, o3, none⟩ := by
            rcases hownx.2 with ⟨h1, h2⟩ | ⟨_, _, _, _, h1, _⟩
            · simp at h2
            · cases h1; exact ⟨_, _, rfl⟩
          subst hoa
          have hlast := Own.cells hownx st2.length (.string (knm c)) (by simp)
          rw [Addr.add_lit] at hlast
          obtain ⟨d, hd⟩ : ∃ d, d = (st2 ++ [c]).length := ⟨_, rfl⟩
          have hd1 : d = st2.length + 1 := by rw [hd]; simp
          have hlast' : wc.cell? ⟨g3, o3 + (d - 1), none⟩ = some (.string (knm c)) := by rw [hd1]; exact hlast
          have hcc := HB.out.2.1 c (by simp)
          have htk := Own.take hownx st2.length (by simp)
          have hcap : d ≤ oc := by
            rcases hownx.2 with ⟨h1, h2⟩ | ⟨_, _, _, _, h1, _, _, _, _, h7, h8⟩
            · simp at h2
            · cases h1; rw [hd]; exact h7
          have hcap2 : oc ≤ maxLen := by
            rcases hownx.2 with ⟨h1, h2⟩ | ⟨_, _, _, _, h1, _, _, _, _, h7, h8⟩
            · simp at h2
            · cases h1; exact h8
          rw [← hd] at hsl ⊢
          have HTK := Lib.hid htk
          have HD := Lib.hid hd1
          unfold maxLen at hcap2
          have d0 : ((d : Int) == 0) = false := by rw [beq_eq_false_iff_ne]; omega
          have s1 : IntKind.i64.wrap ((d : Int) - 1) = (d : Int) - 1 := IntWalk.i64_in _ (by omega)
          have s2 : (0 : Int) ≤ (d : Int) - 1 := by omega
          have s3 : (d : Int) - 1 < (d : Int) := by omega
          have s4 : ((d : Int) - 1).toNat = d - 1 := by omega
          have s5 : (1 : Int) ≤ (d : Int) := by omega
          have s6 : 1 ≤ d := by omega
          have s7 : (d : Int) - 1 ≤ (oc : Int) := by omega
          clear hlast htk hd hd1 hownx
          rcases hcc with rfl | rfl
          · rw [show knm 29 = ⟨#[41]⟩ from rfl] at hlast'
            go_wp2
            go_quiet (fail)
            go_wp2
            go_ret
            exact ⟨false, rfl, below_drewN HBX.out _, fun h => by cases h⟩
          · rw [show knm 27 = ⟨#[93]⟩ from rfl] at hlast'
            go_wp2
            go_quiet (fail)
            go_wp2
            have HE := Lib.hid (show ClRel w ts (.slice (some ⟨g3, o3, none⟩) (d - 1) oc) (q + 1) (wc.drewN nq) st2 from by
              have h1 := HTK.out
              rw [Nat.mul_one, List.map_append, List.take_left' (by simp)] at h1
              refine ⟨by rw [HD.out]; exact h1, below_drewN HBX.out _, fun c hc => HB.out.2.1 c (by simp [hc]), ?_, by have := HD.out; omega⟩
              have h2 := HB.out.2.2
              rw [List.length_append] at h2
              exact h2.step HLT.out fun _ => .cl _ _ (.inr (HTE.out.symm.trans HC.out)))
            go_roundg (ts.length - (q + 1))
            case measure => have h1 := HK.out; have h2 := HLT.out; omega
            case rel => exact ⟨q + 1, st2, HLT.out, rfl, by go_num, HE.out⟩
      · obtain ⟨x1, x2, x3, x4, x5⟩ := knm_other htt.1 htt.2 hc hc2 hc3 hc4 hc5
        have HE := Lib.hid (show ClRel w ts (.slice oa st.length oc) (q + 1) wc st from
          ⟨hownx, HBX.out, HB.out.2.1, HB.out.2.2.step HLT.out fun h => HTE.out ▸ .no _ _ (beq_eq_false_iff_ne.2 hc) (beq_eq_false_iff_ne.2 hc3) (beq_eq_false_iff_ne.2 hc2) (beq_eq_false_iff_ne.2 hc4) (beq_eq_false_iff_ne.2 hc5)
            (beq_eq_false_iff_ne.2 (HTE.out ▸ h.1)) (beq_eq_false_iff_ne.2 (HTE.out ▸ h.2.1)) (beq_eq_false_iff_ne.2 (HTE.out ▸ h.2.2.1)) (beq_eq_false_iff_ne.2 (HTE.out ▸ h.2.2.2)), by omega⟩)
        obtain ⟨S, hS⟩ : ∃ S, S = knm tt := ⟨_, rfl⟩
        rw [← hS] at kx x1 x2 x3 x4 x5
        clear hS hc hc2 hc3 hc4 hc5 htt
        go_wp2
        go_roundg (ts.length - (q + 1))
        case measure => have h1 := HK.out; have h2 := HLT.out; omega
        case rel => exact ⟨q + 1, st, HLT.out, rfl, by go_num, HE.out⟩
    · have hq' : q = ts.length := by omega
      subst hq'
      cases hs0 : (st.length == 0) with
      | true =>
        have HR := Lib.hid (show Cl ts ts.length 0 from by have := HB.out.2.2; rw [beq_iff_eq.1 hs0] at this; exact this)
        have hs0' : ((st.length : Int) == 0) = true := by rw [beq_iff_eq.1 hs0]; rfl
        clear hs0
        go_wp2
        go_ret
        exact ⟨true, rfl, hbel, fun _ => HR.out⟩
      | false =>
        have hs0' : ((st.length : Int) == 0) = false := by rw [beq_eq_false_iff_ne] at hs0 ⊢; omega
        clear hs0
        go_wp2
        go_ret
        exact ⟨false, rfl, hbel, fun h => by cases h⟩
end Go.Proofs.YtlglijnaeaonpaaGreatDoor.Css
/- Whether a text has tokens of some kinds alone. -/
namespace Go.Proofs.YtlglijnaeaonpaaGreatDoor.Css
open Go.RowKit

theorem noBs_of {l : List UInt8} (h : hasB l 92 = false) : NoBs l := by
  intro i
  rcases Nat.lt_or_ge i l.length with hi | hi
  · exact hasB_no h i hi
  · rw [byte_end _ _ hi]; decide

theorem Chain.end_le {n p e : Nat} {l : List (Int × Nat × Nat)} (h : Chain n p l e) : e ≤ max n p := by
  induction h with
  | nil p => omega
  | cons p q tt l e a b c ih => omega

theorem knm_size {tt : Int} (h1 : 1 ≤ tt) (h2 : tt ≤ 32) : (knm tt).size ≤ 12 := by
  rcases kcases h1 h2 with rfl | rfl | rfl | rfl | rfl | rfl | rfl | rfl | rfl | rfl | rfl | rfl | rfl | rfl | rfl | rfl | rfl | rfl | rfl | rfl | rfl | rfl | rfl | rfl | rfl | rfl | rfl | rfl | rfl | rfl | rfl | rfl
  all_goals decide

/-- A text has tokens of some kinds alone. -/
structure AT (kinds : ByteArray) (l : List UInt8) : Prop where
  bs : NoBs l
  nz : NoZ l
  le : l.length ≤ 60
  ts : ∃ ts, ts ≠ [] ∧ Chain l.length 0 ts l.length ∧ (∀ k ∈ ts, (1 ≤ k.1 ∧ k.1 ≤ 32) ∧ hasT kinds (⟨#[32]⟩ ++ knm k.1 ++ ⟨#[32]⟩) = true ∧ (Allow l k.2.1 k.1 → Tk l k.2.1 k.1 k.2.2) ∧ (k.1 = 9 → k.2.2 = k.2.1 + 1 ∧ Del9 l k.2.1)) ∧ Cl ts ts.length 0

def ATPost (w : World) (kinds : ByteArray) (l : List UInt8) (e : Ending) (w' : World) : Prop := ∃ r, e = .returned (.bool r) ∧ Below w.heap.size w w' ∧ (r = true → AT kinds l)

set_option maxRecDepth 100000 in
set_option maxHeartbeats 4000000 in
theorem areTokens_any (w : World) (v : Value) (l : List UInt8) (kinds : ByteArray) (h : Sl w v l) (hU : Utab w) (hlen : l.length ≤ 2147483648) (hks : kinds.size ≤ 1000) :
    Calls Tryz.prog 51 #[v, .string kinds] w (ATPost w kinds l) := by
  have htok := tokens_any w v l h hU hlen
  have HS := Lib.hid h
  obtain ⟨a, cap, rfl, hlc, hcap, _⟩ := id h
  clear h hU
  go_enter Tryz.func51, Tryz.ntmps51
  go_wp2_with (go_at_call 49; ((with_reducible refine htok.mono ?_); rintro e w1 ⟨b, off, cap', ts, out, ok, rfl, hbel, hout, hv⟩; obtain ⟨oa, oc, rfl, hoc, hoc2, hpos⟩ := id hout.own.tokMem; have HT := Lib.hid hout; have HBL := Lib.hid hbel; clear hout hv hbel htok))
  have hlen2 : ts.length ≤ 2147483648 := by obtain ⟨e, h1, _⟩ := HT.out.chain; have := h1.len; have := h1.end_le; omega
  unfold maxLen at hoc2
  have HP := Lib.hid hpos
  clear hpos
  go_loopg [16] ts.length (fun k i wr => ∃ q, q ≤ ts.length ∧ k = ts.length - q ∧ i = .int .i64 q ∧ Below w1.heap.size w1 wr ∧ ∀ j (hj : j < q) (h : j < ts.length), hasT kinds (⟨#[32]⟩ ++ knm ts[j].1 ++ ⟨#[32]⟩) = true)
  case atStart => exact ⟨0, Nat.zero_le _, rfl, rfl, Below.refl _ _, fun _ h => by omega⟩
  case round =>
    obtain ⟨q, hq, hk, rfl, hbel, hall⟩ := hrel
    have HA := Lib.hid hall
    have HK := Lib.hid hk
    clear hall hk
    by_cases hlt : q < ts.length
    · obtain ⟨g, o, c, hce, _, _, hcell⟩ := TokMem.pos HT.out.own.tokMem (by omega)
      cases hce
      obtain ⟨k0, k1, k2, k3, k4, k5⟩ := hcell wr hbel q hlt
      have htt := HT.out.kinds _ (List.getElem_mem hlt)
      obtain ⟨tt, hte⟩ : ∃ tt : Int, tt = ts[q].1 := ⟨_, rfl⟩
      rw [← hte] at k0 htt
      have HTE := Lib.hid hte
      have HLT := Lib.hid hlt
      clear hte hcell
      go_upto_region 4 with fail
      go_cut [8] (fun s wx => ∃ tg, s = .pointer (some ⟨tg, 0, none⟩) ∧ wx.cell? ⟨tg, 0, none⟩ = some (.string (knm tt)) ∧ Below wr.heap.size wr wx)
      case first =>
        have hb := (Below.refl wr.heap.size wr).alloc (Nat.le_refl _)
        go_wp2_with fail
        go_meet
        exact ⟨_, rfl, by rw [World.cell?_alloc_new]; rfl, hb _⟩
      case rest =>
      clear k0 k1 k2 k3 k4 k5
      obtain ⟨tg, rfl, kx, hbx⟩ := hcut
      have hsz := knm_size htt.1 htt.2
      have hht := hastext_any wc kinds (⟨#[32]⟩ ++ knm tt ++ ⟨#[32]⟩) (by omega) (by rw [ByteArray.size_append, ByteArray.size_append]; show 1 + (knm tt).size + 1 ≤ _; omega)
      have HB2 := Lib.hid (hbel.trans (hbx.mono hbel.size))
      clear hbel hbx
      cases hr : hasT kinds (⟨#[32]⟩ ++ knm tt ++ ⟨#[32]⟩) with
      | false =>
        rw [hr] at hht
        clear hr
        go_wp2_with (go_at_call 69; ((with_reducible refine hht.mono ?_); rintro e w' ⟨rfl, rfl⟩))
        go_ret
        exact ⟨false, rfl, HBL.out.trans (HB2.out.mono HBL.out.size), fun h => by cases h⟩
      | true =>
        rw [hr] at hht
        have HR := Lib.hid hr
        clear hr
        go_wp2_with (go_at_call 69; ((with_reducible refine hht.mono ?_); rintro e w' ⟨rfl, rfl⟩))
        go_roundg (ts.length - (q + 1))
        case measure => have h1 := HK.out; have h2 := HLT.out; omega
        case rel =>
          refine ⟨q + 1, HLT.out, rfl, by go_num, HB2.out, fun j hj h => ?_⟩
          by_cases e : j = q
          · subst e; rw [← HTE.out]; exact HR.out
          · exact HA.out j (by omega) h
    · have hq' : q = ts.length := by omega
      have HALL := Lib.hid (show ∀ j (h : j < ts.length), hasT kinds (⟨#[32]⟩ ++ knm ts[j].1 ++ ⟨#[32]⟩) = true from fun j h => HA.out j (by omega) h)
      have HBB := Lib.hid (HBL.out.trans (hbel.mono HBL.out.size))
      subst hq'
      cases ok with
      | false =>
        go_wp2
        go_ret
        exact ⟨false, rfl, HBB.out, fun h => by cases h⟩
      | true =>
      rcases Nat.eq_zero_or_pos ts.length with h0 | h0
      · have z0 : decide (0 < ts.length) = false := decide_eq_false (by omega)
        have z1 : decide ((0 : Int) < (ts.length : Int)) = false := decide_eq_false (by omega)
        clear h0
        go_wp2
        go_ret
        exact ⟨false, rfl, HBB.out, fun h => by cases h⟩
      · have z0 : decide (0 < ts.length) = true := decide_eq_true h0
        have z1 : decide ((0 : Int) < (ts.length : Int)) = true := decide_eq_true (by omega)
        by_cases h60 : l.length ≤ 60
        · have y0 : decide (l.length ≤ 60) = true := decide_eq_true h60
          have y1 : decide ((l.length : Int) ≤ 60) = true := decide_eq_true (by omega)
          have hhs := has_any wr _ l 92 ((HS.out.below HBL.out).below hbel).slb HS.out.len
          cases hz : hasB l 92 with
          | true =>
            rw [hz] at hhs
            clear hz
            go_wp2_with (go_at_call 53; ((with_reducible refine hhs.mono ?_); rintro e w' ⟨rfl, rfl⟩))
            go_ret
            exact ⟨false, rfl, HBB.out, fun h => by cases h⟩
          | false =>
            rw [hz] at hhs
            have HZ := Lib.hid hz
            clear hz
            have hcl := closes_any wr _ b off cap' ts (HT.out.own.tokMem.below hbel) HT.out.kinds hlen2
            go_wp2_with (first | (go_at_call 53; ((with_reducible refine hhs.mono ?_); rintro e w' ⟨rfl, rfl⟩)) | (go_at_call 70; ((with_reducible refine hcl.mono ?_); rintro e w' ⟨r, rfl, hb9, hcl9⟩)))
            go_ret
            refine ⟨r, rfl, HBB.out.trans (hb9.mono HBB.out.size), fun hr => ?_⟩
            obtain ⟨e, hch, he⟩ := HT.out.chain
            have hnb := noBs_of HZ.out
            refine ⟨hnb, HT.out.nz rfl, h60, ts, fun e => by rw [e] at h0; exact absurd h0 (by simp), by rw [← he rfl] ; exact (he rfl) ▸ hch, fun k hk => ⟨HT.out.kinds k hk, ?_, HT.out.tk rfl hnb k hk, HT.out.dl rfl hnb k hk⟩, hcl9 hr⟩
            obtain ⟨j, hj, rfl⟩ := List.mem_iff_getElem.1 hk
            exact HALL.out j hj
        · have y0 : decide (l.length ≤ 60) = false := decide_eq_false h60
          have y1 : decide ((l.length : Int) ≤ 60) = false := decide_eq_false (by omega)
          go_wp2
          go_ret
          exact ⟨false, rfl, HBB.out, fun h => by cases h⟩
end Go.Proofs.YtlglijnaeaonpaaGreatDoor.Css
/- Values: words of a declaration. -/
namespace Go.Proofs.YtlglijnaeaonpaaGreatDoor.Css
open Go.RowKit

/-- A text stands in another one, over lists. -/
def hasL (s p : List UInt8) : Bool := (List.range (s.length + 1)).any fun q => decide (q + p.length ≤ s.length) && ((s.drop q).take p.length == p)
theorem hasT_L (s p : ByteArray) : hasT s p = hasL s.data.toList p.data.toList := by
  have e : ∀ q, subAt s p q = ((s.data.toList.drop q).take p.data.toList.length == p.data.toList) := by
    intro q
    rw [subAt, ByteArray.toList_eq, ByteArray.toList_eq, ByteArray.data_extract, Array.toList_extract]
    have : p.size = p.data.toList.length := by rw [Array.length_toList]; rfl
    rw [this, List.extract_eq_take_drop, Nat.add_sub_cancel_left]
  have h1 : s.size = s.data.toList.length := by rw [Array.length_toList]; rfl
  have h2 : p.size = p.data.toList.length := by rw [Array.length_toList]; rfl
  simp only [hasT, hasL, e, h1, h2]

/-- The kinds of a value's tokens. -/
def Vk (tt : Int) : Prop := tt = 1 ∨ tt = 10 ∨ tt = 11 ∨ tt = 12 ∨ tt = 4 ∨ tt = 5 ∨ tt = 7 ∨ tt = 2 ∨ tt = 28 ∨ tt = 29 ∨ tt = 25
instance (tt : Int) : Decidable (Vk tt) := inferInstanceAs (Decidable (_ ∨ _))
def valKinds : ByteArray := ⟨#[32, 105, 100, 101, 110, 116, 32, 110, 117, 109, 98, 101, 114, 32, 112, 101, 114, 99, 101, 110, 116, 97, 103, 101, 32, 100, 105, 109, 101, 110, 115, 105, 111, 110, 32, 104, 97, 115, 104, 32, 115, 116, 114, 105, 110, 103, 32, 117, 114, 108, 32, 102, 117, 110, 99, 116, 105, 111, 110, 32, 40, 32, 41, 32, 44, 32]⟩
def sp (l : List UInt8) : List UInt8 := 32 :: l ++ [32]
theorem val_kind {tt : Int} (h1 : 1 ≤ tt) (h2 : tt ≤ 32) (h : hasT valKinds (⟨#[32]⟩ ++ knm tt ++ ⟨#[32]⟩) = true) : Vk tt := by
  rw [hasT_L] at h
  rcases kcases h1 h2 with rfl | rfl | rfl | rfl | rfl | rfl | rfl | rfl | rfl | rfl | rfl | rfl | rfl | rfl | rfl | rfl | rfl | rfl | rfl | rfl | rfl | rfl | rfl | rfl | rfl | rfl | rfl | rfl | rfl | rfl | rfl | rfl
  all_goals first | (exact (by decide)) | (exfalso; revert h; decide +kernel)

/-- A word of a value. -/
structure VT (l : List UInt8) : Prop where
  bs : NoBs l
  nz : NoZ l
  le : l.length ≤ 60
  ts : ∃ ts, ts ≠ [] ∧ Chain l.length 0 ts l.length ∧ (∀ k ∈ ts, Vk k.1 ∧ Tk l k.2.1 k.1 k.2.2) ∧ Bal 0 ts
theorem Vk.allow {t : List UInt8} {p : Nat} {tt : Int} (h : Vk tt) : Allow t p tt := by
  unfold Vk at h
  exact ⟨by omega, fun e => by omega⟩
theorem AT.vt {l : List UInt8} (h : AT valKinds l) : VT l := by
  obtain ⟨ts, h1, h2, h3, h4⟩ := h.ts
  have hv : ∀ k ∈ ts, Vk k.1 := fun k hk => val_kind (h3 k hk).1.1 (h3 k hk).1.2 (h3 k hk).2.1
  refine ⟨h.bs, h.nz, h.le, ts, h1, h2, fun k hk => ⟨hv k hk, (h3 k hk).2.2.1 (hv k hk).allow⟩, ?_⟩
  have := h4 (fun k hk => by have := hv k hk; unfold Vk at this; omega) [] .nil
  rwa [List.take_length, List.append_nil] at this
theorem VT.pos {l : List UInt8} (h : VT l) : 0 < l.length := by
  obtain ⟨ts, h1, h2, _⟩ := h.ts
  cases ts with
  | nil => exact absurd rfl h1
  | cons k ts => have := h2.len; simp only [List.length_cons] at this; omega

def VTPost (w : World) (l : List UInt8) (e : Ending) (w' : World) : Prop := ∃ r, e = .returned (.bool r) ∧ Below w.heap.size w w' ∧ (r = true → VT l)
set_option maxRecDepth 100000 in
theorem isValue_any (w : World) (v : Value) (l : List UInt8) (h : Sl w v l) (hU : Utab w) (hlen : l.length ≤ 2147483648) : Calls Tryz.prog 31 #[v] w (VTPost w l) := by
  have hat := areTokens_any w v l valKinds h hU hlen (by decide)
  unfold valKinds at hat
  obtain ⟨a, cap, rfl, _, _, _⟩ := id h
  clear h hU
  go_enter Tryz.func31, Tryz.ntmps31
  go_wp2_with (go_at_call 51; (refine hat.mono ?_); rintro e w1 ⟨r, rfl, hbel, hr⟩)
  go_ret
  exact ⟨r, rfl, hbel, fun h => (hr h).vt⟩

/-- Words in memory. -/
def WordsMem (w : World) (v : Value) (ws : List (List UInt8)) : Prop :=
  ∃ a c, v = .slice a ws.length c ∧ ws.length ≤ c ∧ c ≤ 140737488351232 ∧ (0 < ws.length → ∃ g o, a = some ⟨g, o, none⟩ ∧ ∀ i (h : i < ws.length), ∃ u, w.cell? ⟨g, o + i, none⟩ = some u ∧ Sl w u ws[i])
theorem WordsMem.below {w w' : World} {v : Value} {ws : List (List UInt8)} (h : WordsMem w v ws) (hb : Below w.heap.size w w') : WordsMem w' v ws := by
  obtain ⟨a, c, h1, h2, h3, h4⟩ := h
  refine ⟨a, c, h1, h2, h3, fun h0 => ?_⟩
  obtain ⟨g, o, e, hc⟩ := h4 h0
  refine ⟨g, o, e, fun i hi => ?_⟩
  obtain ⟨u, hu1, hu2⟩ := hc i hi
  exact ⟨u, (hb.cell (p := ⟨g, o + i, none⟩) (World.block_lt_of_cell? w _ hu1)).trans hu1, hu2.below hb⟩
/-- Words of a value, the first one beginning with a name. -/
structure Vals (ws : List (List UInt8)) : Prop where
  le : ws.length ≤ 8
  vt : ∀ x ∈ ws, VT x
  st : ∀ x, ws.head? = some x → isSt (byte x 0) = true
def ValsPost (w : World) (ws : List (List UInt8)) (e : Ending) (w' : World) : Prop := ∃ r, e = .returned (.bool r) ∧ Below w.heap.size w w' ∧ (r = true → Vals ws)

set_option maxRecDepth 100000 in
set_option maxHeartbeats 4000000 in
theorem areValues_any (w : World) (v : Value) (ws : List (List UInt8)) (h : WordsMem w v ws) (hU : Utab w) (hlen : ∀ x ∈ ws, x.length ≤ 2147483648) : Calls Tryz.prog 14 #[v] w (ValsPost w ws) := by
  obtain ⟨a, c, rfl, hc1, hc2, hpos⟩ := h
  rcases Nat.eq_zero_or_pos ws.length with h0 | h0
  · rw [h0]
    have HR := Lib.hid (show Vals ws from by rw [List.eq_nil_of_length_eq_zero h0]; exact ⟨by simp, fun _ h => (by cases h), fun _ h => (by cases h)⟩)
    clear hpos h0 hc1 hlen hU
    go_enter Tryz.func14, Tryz.ntmps14
    go_wp2
    refine wp_loop_once fun _ => ?_
    go_wp2
    go_ret
    exact ⟨true, rfl, Below.refl _ _, fun _ => HR.out⟩
  obtain ⟨g, o, rfl, hcell⟩ := hpos h0
  have HC := Lib.hid hcell
  have HL := Lib.hid hlen
  have HU := Lib.hid hU
  have h3 := hU.lt
  clear hpos hcell hlen hU
  go_enter Tryz.func14, Tryz.ntmps14
  go_wp2
  go_loopg [7] ws.length (fun k i wr => ∃ q, q ≤ ws.length ∧ k = ws.length - q ∧ i = .int .i64 q ∧ Below w.heap.size w wr ∧ ∀ j (hj : j < ws.length), j < q → VT ws[j] ∧ (j = 0 → isSt (byte ws[j] 0) = true))
  case atStart => exact ⟨0, Nat.zero_le _, rfl, rfl, Below.refl _ _, fun _ _ h => by omega⟩
  case round =>
    obtain ⟨q, hq, hk, rfl, hbel, hall⟩ := hrel
    have HA := Lib.hid hall
    have HK := Lib.hid hk
    clear hall hk
    by_cases hlt : q < ws.length
    · obtain ⟨x, hx⟩ : ∃ x, x = ws[q] := ⟨_, rfl⟩
      obtain ⟨u, hu1, hu2⟩ := HC.out q hlt
      rw [← hx] at hu2
      have hxl := HL.out ws[q] (List.getElem_mem hlt)
      rw [← hx] at hxl
      have HX := Lib.hid (show ∀ (P : List UInt8 → Prop), P x → P ws[q] from fun P h => hx ▸ h)
      have HLT := Lib.hid hlt
      clear hx
      have k0 : wr.cell? ⟨g, o + q, none⟩ = some u := (hbel.cell (p := ⟨g, o + q, none⟩) (World.block_lt_of_cell? w _ hu1)).trans hu1
      have hu3 := hu2.below hbel
      have hiv := isValue_any wr u x hu3 (HU.out.below h3 hbel) hxl
      obtain ⟨ua, uc, rfl, _, _, hup⟩ := id hu3
      have HUP := Lib.hid hup
      clear hu1 hu2 hu3 hup hxl
      go_upto_region 4 with fail
      go_cut [25] (fun s wx => ∃ r : Bool, s = .bool r ∧ Below wr.heap.size wr wx ∧ (r = false → VT x ∧ (q = 0 → isSt (byte x 0) = true)))
      case first =>
        by_cases hvt : VT x
        · obtain ⟨b, off, rfl, hL⟩ := HUP.out hvt.pos
          have hp0 := hvt.pos
          have c0 := hL 0 hp0
          rw [Nat.add_zero] at c0
          have hbl := hL.lt hp0
          have i0 : (0 : Int) < (x.length : Int) := by omega
          have HV := Lib.hid hvt
          clear hL hvt
          by_cases hq0 : q = 0
          · subst hq0
            cases hst : isSt (byte x 0) with
            | true =>
              have HST := Lib.hid hst
              go_wp2_with (first | (go_at_call 31; (with_reducible refine hiv.mono ?_); rintro e w1 ⟨r, rfl, hb1, hr1⟩; clear hr1; have c1 := (hb1.cell (p := ⟨b, off, none⟩) hbl).trans c0) | (go_at_call 32; ((with_reducible refine ((start_any _ _ (byte_lo _ _) (byte_hi _ _))).mono ?_); (rintro e w' ⟨rfl, rfl⟩))))
              all_goals (go_meet; exact ⟨_, rfl, by assumption, fun _ => ⟨HV.out, fun _ => HST.out⟩⟩)
            | false =>
              go_wp2_with (first | (go_at_call 31; (with_reducible refine hiv.mono ?_); rintro e w1 ⟨r, rfl, hb1, hr1⟩; clear hr1; have c1 := (hb1.cell (p := ⟨b, off, none⟩) hbl).trans c0) | (go_at_call 32; ((with_reducible refine ((start_any _ _ (byte_lo _ _) (byte_hi _ _))).mono ?_); (rintro e w' ⟨rfl, rfl⟩))))
              all_goals (go_meet; exact ⟨true, rfl, by assumption, fun h => (by cases h)⟩)
          · have z0 : ((q : Int) == 0) = false := by rw [beq_eq_false_iff_ne]; omega
            go_wp2_with (go_at_call 31; (with_reducible refine hiv.mono ?_); rintro e w1 ⟨r, rfl, hb1, hr1⟩; clear hr1)
            all_goals (go_meet; exact ⟨_, rfl, by assumption, fun _ => ⟨HV.out, fun e => absurd e hq0⟩⟩)
        · have HV := Lib.hid hvt
          clear hvt
          go_wp2_with (go_at_call 31; (with_reducible refine hiv.mono ?_); rintro e w1 ⟨r, rfl, hb1, hr1⟩; obtain rfl : r = false := (by cases r with | false => rfl | true => exact absurd (hr1 rfl) HV.out); clear hr1)
          go_meet
          exact ⟨true, rfl, hb1, fun h => (by cases h)⟩
      case rest =>
      clear hiv k0
      obtain ⟨r, rfl, hb2, hr2⟩ := hcut
      have HB2 := Lib.hid (hbel.trans (hb2.mono hbel.size))
      have HR2 := Lib.hid hr2
      clear hbel hb2 hr2
      cases r with
      | true =>
        go_wp2
        go_ret
        exact ⟨false, rfl, HB2.out, fun h => by cases h⟩
      | false =>
        go_wp2
        go_roundg (ws.length - (q + 1))
        case measure => have h1 := HK.out; have h2 := HLT.out; omega
        case rel =>
          refine ⟨q + 1, HLT.out, rfl, by go_num, HB2.out, fun j hj hjq => ?_⟩
          by_cases e : j = q
          · subst e
            exact HX.out (fun y => VT y ∧ (j = 0 → isSt (byte y 0) = true)) (HR2.out (by first | rfl | trivial))
          · exact HA.out j hj (by omega)
    · have hq' : q = ws.length := by omega
      have HALL := Lib.hid (show ∀ j (hj : j < ws.length), VT ws[j] ∧ (j = 0 → isSt (byte ws[j] 0) = true) from fun j hj => HA.out j hj (by omega))
      by_cases h8 : ws.length ≤ 8
      · have y0 : decide (ws.length ≤ 8) = true := decide_eq_true h8
        have y1 : decide ((ws.length : Int) ≤ 8) = true := decide_eq_true (by omega)
        subst hq'
        go_wp2
        go_ret
        refine ⟨true, rfl, hbel, fun _ => ⟨h8, fun x hx => ?_, fun x hx => ?_⟩⟩
        · obtain ⟨j, hj, rfl⟩ := List.mem_iff_getElem.1 hx; exact (HALL.out j hj).1
        · have := (HALL.out 0 h0).2 rfl
          rw [List.head?_eq_getElem?, List.getElem?_eq_getElem h0] at hx
          rw [← Option.some.inj hx]; exact this
      · have y0 : decide (ws.length ≤ 8) = false := decide_eq_false h8
        have y1 : decide ((ws.length : Int) ≤ 8) = false := decide_eq_false (by omega)
        subst hq'
        go_wp2
        go_ret
        exact ⟨false, rfl, hbel, fun h => by cases h⟩
end Go.Proofs.YtlglijnaeaonpaaGreatDoor.Css
/- Declarations: their names, their sizes, whether they are ones. -/
namespace Go.Proofs.YtlglijnaeaonpaaGreatDoor.Css
open Go.RowKit

/-- The name of a property: small letters, and hyphens between them. -/
structure PropOK (l : List UInt8) : Prop where
  lo : 0 < l.length
  le : l.length ≤ 20
  by_ : ∀ i, i < l.length → (97 ≤ byte l i ∧ byte l i ≤ 122) ∨ (byte l i = 45 ∧ i ≠ 0 ∧ i ≠ l.length - 1 ∧ byte l (i - 1) ≠ 45)
def PropPost (w : World) (l : List UInt8) (e : Ending) (w' : World) : Prop := ∃ r, e = .returned (.bool r) ∧ w = w' ∧ (r = true → PropOK l)

set_option maxRecDepth 100000 in
set_option maxHeartbeats 4000000 in
theorem isProperty_any (w : World) (v : Value) (l : List UInt8) (h : Sl w v l) : Calls Tryz.prog 30 #[v] w (PropPost w l) := by
  obtain ⟨a, cap, rfl, hlc, hcap, hx⟩ := h
  rcases Nat.eq_zero_or_pos l.length with h0 | h0
  · rw [h0]
    clear hx h0 hlc
    go_enter Tryz.func30, Tryz.ntmps30
    go_wp2
    refine wp_loop_once fun _ => ?_
    go_wp2
    go_ret
    exact ⟨false, rfl, rfl, fun h => by cases h⟩
  obtain ⟨b, off, rfl, hL⟩ := hx h0
  have HL := Lib.hid hL
  clear hx hL
  go_enter Tryz.func30, Tryz.ntmps30
  go_wp2
  go_loopg [7] l.length (fun k i wr => ∃ q, q ≤ l.length ∧ k = l.length - q ∧ i = .int .i64 q ∧ wr = w ∧
    ∀ i, i < q → (97 ≤ byte l i ∧ byte l i ≤ 122) ∨ (byte l i = 45 ∧ i ≠ 0 ∧ i ≠ l.length - 1 ∧ byte l (i - 1) ≠ 45))
  case atStart => exact ⟨0, Nat.zero_le _, rfl, rfl, rfl, fun _ h => by omega⟩
  case round =>
    obtain ⟨q, hq, hk, rfl, rfl, hall⟩ := hrel
    have HA := Lib.hid hall
    have HK := Lib.hid hk
    clear hall hk
    by_cases hlt : q < l.length
    · have c0 := HL.out q hlt
      have STEP := Lib.hid (show ((97 ≤ byte l q ∧ byte l q ≤ 122) ∨ (byte l q = 45 ∧ q ≠ 0 ∧ q ≠ l.length - 1 ∧ byte l (q - 1) ≠ 45)) → ∀ i, i < q + 1 → (97 ≤ byte l i ∧ byte l i ≤ 122) ∨ (byte l i = 45 ∧ i ≠ 0 ∧ i ≠ l.length - 1 ∧ byte l (i - 1) ≠ 45) from by
        intro hs i hi
        by_cases e : i = q
        · subst e; exact hs
        · exact HA.out i (by omega))
      have b0 := byte_lo l q
      have b1 := byte_hi l q
      obtain ⟨x, hx⟩ : ∃ x, x = byte l q := ⟨_, rfl⟩
      have HX := Lib.hid hx
      rw [← hx] at c0 b0 b1
      clear hx
      by_cases hlet : 97 ≤ x ∧ x ≤ 122
      · obtain ⟨l1, l2⟩ := hlet
        have HE := Lib.hid (STEP.out (.inl (by rw [← HX.out]; exact ⟨l1, l2⟩)))
        go_wp2
        go_roundg (l.length - (q + 1))
        case measure => have := HK.out; omega
        case rel => exact ⟨q + 1, by omega, rfl, by go_num, rfl, HE.out⟩
      · have hnl : decide (97 ≤ x) = false ∨ (decide (97 ≤ x) = true ∧ decide (x ≤ 122) = false) := by
          by_cases h1 : 97 ≤ x
          · exact .inr ⟨decide_eq_true h1, decide_eq_false fun h2 => hlet ⟨h1, h2⟩⟩
          · exact .inl (decide_eq_false h1)
        clear hlet
        cases h45 : (x == 45) with
        | false =>
          have h45' : (x != 45) = true := by rw [bne, h45]; rfl
          rcases hnl with n1 | ⟨n1, n2⟩
          all_goals
            go_wp2
            go_ret
            exact ⟨false, rfl, rfl, fun h => by cases h⟩
        | true =>
          have h45' : (x != 45) = false := by rw [bne, h45]; rfl
          have n1 : decide (97 ≤ x) = false := by rw [beq_iff_eq.1 h45]; rfl
          have H45 := Lib.hid (beq_iff_eq.1 h45)
          clear hnl
          by_cases hq0 : q = 0
          · have z0 : ((q : Int) == 0) = true := by rw [beq_iff_eq]; omega
            clear hq0
            go_wp2
            go_ret
            exact ⟨false, rfl, rfl, fun h => by cases h⟩
          · have z0 : ((q : Int) == 0) = false := by rw [beq_eq_false_iff_ne]; omega
            by_cases hql : q = l.length - 1
            · have z1 : ((q : Int) == (l.length : Int) - 1) = true := by rw [beq_iff_eq]; omega
              have HQ0 := Lib.hid hq0
              clear hq0 hql
              go_wp2
              go_ret
              exact ⟨false, rfl, rfl, fun h => by cases h⟩
            · have z1 : ((q : Int) == (l.length : Int) - 1) = false := by rw [beq_eq_false_iff_ne]; omega
              have c1 := HL.out (q - 1) (by omega)
              have s1 : IntKind.i64.wrap ((q : Int) - 1) = (q : Int) - 1 := IntWalk.i64_in _ (by omega)
              have s2 : (0 : Int) ≤ (q : Int) - 1 := by omega
              have s3 : (q : Int) - 1 < (l.length : Int) := by omega
              have s4 : ((q : Int) - 1).toNat = q - 1 := by omega
              have s5 : (1 : Int) ≤ (q : Int) := by omega
              have s6 : 1 ≤ q := by omega
              cases hpv : (byte l (q - 1) == 45) with
              | true =>
                have HQ0 := Lib.hid hq0
                clear hq0 hql
                go_wp2
                go_ret
                exact ⟨false, rfl, rfl, fun h => by cases h⟩
              | false =>
                have HE := Lib.hid (STEP.out (.inr ⟨HX.out ▸ H45.out, hq0, hql, beq_eq_false_iff_ne.1 hpv⟩))
                clear hq0 hql
                go_wp2
                go_roundg (l.length - (q + 1))
                case measure => have := HK.out; omega
                case rel => exact ⟨q + 1, by omega, rfl, by go_num, rfl, HE.out⟩
    · have hq' : q = l.length := by omega
      have HALL := Lib.hid hq'
      have y2 : decide (0 < l.length) = true := decide_eq_true h0
      have y3 : decide ((0 : Int) < (l.length : Int)) = true := decide_eq_true (by omega)
      by_cases h20 : l.length ≤ 20
      · have y0 : decide (l.length ≤ 20) = true := decide_eq_true h20
        have y1 : decide ((l.length : Int) ≤ 20) = true := decide_eq_true (by omega)
        subst hq'
        go_wp2
        go_ret
        exact ⟨true, rfl, rfl, fun _ => ⟨h0, h20, HA.out⟩⟩
      · have y0 : decide (l.length ≤ 20) = false := decide_eq_false h20
        have y1 : decide ((l.length : Int) ≤ 20) = false := decide_eq_false (by omega)
        subst hq'
        go_wp2
        go_ret
        exact ⟨false, rfl, rfl, fun h => by cases h⟩

/-- Declarations in memory: a name and words each. -/
def DeclsMem (w : World) (v : Value) (ds : List (List UInt8 × List (List UInt8))) : Prop :=
  ∃ a c, v = .slice a ds.length c ∧ ds.length ≤ c ∧ c ≤ 140737488351232 ∧ (0 < ds.length → ∃ g o, a = some ⟨g, o, none⟩ ∧ ∀ i (h : i < ds.length), ∃ u x, w.cell? ⟨g, o + i * 2, none⟩ = some u ∧ w.cell? ⟨g, o + i * 2 + 1, none⟩ = some x ∧ Sl w u ds[i].1 ∧ WordsMem w x ds[i].2)
theorem DeclsMem.below {w w' : World} {v : Value} {ds : List (List UInt8 × List (List UInt8))} (h : DeclsMem w v ds) (hb : Below w.heap.size w w') : DeclsMem w' v ds := by
  obtain ⟨a, c, h1, h2, h3, h4⟩ := h
  refine ⟨a, c, h1, h2, h3, fun h0 => ?_⟩
  obtain ⟨g, o, e, hc⟩ := h4 h0
  refine ⟨g, o, e, fun i hi => ?_⟩
  obtain ⟨u, x, hu1, hx1, hu2, hx2⟩ := hc i hi
  exact ⟨u, x, (hb.cell (p := ⟨g, o + i * 2, none⟩) (World.block_lt_of_cell? w _ hu1)).trans hu1, (hb.cell (p := ⟨g, o + i * 2 + 1, none⟩) (World.block_lt_of_cell? w _ hx1)).trans hx1, hu2.below hb, hx2.below hb⟩

/-- Declarations as they are to be. -/
structure DsOK (ds : List (List UInt8 × List (List UInt8))) : Prop where
  le : ds.length ≤ 10
  ok : ∀ d ∈ ds, PropOK d.1 ∧ Vals d.2 ∧ d.2 ≠ []
def DsPost (w : World) (ds : List (List UInt8 × List (List UInt8))) (e : Ending) (w' : World) : Prop := ∃ r, e = .returned (.bool r) ∧ Below w.heap.size w w' ∧ (r = true → DsOK ds)

set_option maxRecDepth 100000 in
set_option maxHeartbeats 4000000 in
theorem areDecls_any (w : World) (v : Value) (ds : List (List UInt8 × List (List UInt8))) (h : DeclsMem w v ds) (hU : Utab w) (hlen : ∀ d ∈ ds, ∀ x ∈ d.2, x.length ≤ 2147483648) : Calls Tryz.prog 11 #[v] w (DsPost w ds) := by
  obtain ⟨a, c, rfl, hc1, hc2, hpos⟩ := h
  rcases Nat.eq_zero_or_pos ds.length with h0 | h0
  · rw [h0]
    have HR := Lib.hid (show DsOK ds from by rw [List.eq_nil_of_length_eq_zero h0]; exact ⟨by simp, fun _ h => (by cases h)⟩)
    clear hpos h0 hc1 hlen hU
    go_enter Tryz.func11, Tryz.ntmps11
    go_wp2
    refine wp_loop_once fun _ => ?_
    go_wp2
    go_ret
    exact ⟨true, rfl, Below.refl _ _, fun _ => HR.out⟩
  obtain ⟨g, o, rfl, hcell⟩ := hpos h0
  have HC := Lib.hid hcell
  have HL := Lib.hid hlen
  have HU := Lib.hid hU
  have h3 := hU.lt
  clear hpos hcell hlen hU
  go_enter Tryz.func11, Tryz.ntmps11
  go_wp2
  go_loopg [7] ds.length (fun k i wr => ∃ q, q ≤ ds.length ∧ k = ds.length - q ∧ i = .int .i64 q ∧ Below w.heap.size w wr ∧ ∀ j (hj : j < ds.length), j < q → PropOK ds[j].1 ∧ Vals ds[j].2 ∧ ds[j].2 ≠ [])
  case atStart => exact ⟨0, Nat.zero_le _, rfl, rfl, Below.refl _ _, fun _ _ h => by omega⟩
  case round =>
    obtain ⟨q, hq, hk, rfl, hbel, hall⟩ := hrel
    have HA := Lib.hid hall
    have HK := Lib.hid hk
    clear hall hk
    by_cases hlt : q < ds.length
    · obtain ⟨d, hx⟩ : ∃ d, d = ds[q] := ⟨_, rfl⟩
      obtain ⟨u, x, hu1, hx1, hu2, hx2⟩ := HC.out q hlt
      rw [← hx] at hu2 hx2
      have hxl := HL.out ds[q] (List.getElem_mem hlt)
      rw [← hx] at hxl
      have HX := Lib.hid (show ∀ (P : List UInt8 × List (List UInt8) → Prop), P d → P ds[q] from fun P h => hx ▸ h)
      have HLT := Lib.hid hlt
      clear hx
      have k0 : wr.cell? ⟨g, o + q * 2, none⟩ = some u := (hbel.cell (p := ⟨g, o + q * 2, none⟩) (World.block_lt_of_cell? w _ hu1)).trans hu1
      have k1 : wr.cell? ⟨g, o + q * 2 + 1, none⟩ = some x := (hbel.cell (p := ⟨g, o + q * 2 + 1, none⟩) (World.block_lt_of_cell? w _ hx1)).trans hx1
      have hu3 := hu2.below hbel
      have hx3 := hx2.below hbel
      obtain ⟨ua, uc, rfl, _, _, _⟩ := id hu3
      obtain ⟨xa, xc, rfl, _, _, _⟩ := id hx3
      have HM := Lib.hid (show _ ∧ _ ∧ _ from ⟨hu3, hx3, hxl⟩)
      clear hu1 hu2 hu3 hx1 hx2 hx3 hxl
      go_upto_region 3 with fail
      go_cut [4] (fun s wx => ∃ tg, s = .pointer (some ⟨tg, 0, none⟩) ∧ wx.cell? ⟨tg, 0, none⟩ = some (.slice ua d.1.length uc) ∧ wx.cell? ⟨tg, 1, none⟩ = some (.slice xa d.2.length xc) ∧ tg < wx.heap.size ∧ Below wr.heap.size wr wx)
      case first =>
        have hb := (Below.refl wr.heap.size wr).alloc (Nat.le_refl _)
        go_wp2_with fail
        go_meet
        exact ⟨_, rfl, by rw [World.cell?_alloc_new]; rfl, by rw [World.cell?_alloc_new]; rfl, by simp, hb _⟩
      case rest =>
      clear k0 k1
      obtain ⟨tg, rfl, t0, t1, htg, hbx⟩ := hcut
      obtain ⟨hu, hx, hxl⟩ := HM.out
      have hip := isProperty_any wc _ d.1 (hu.below hbx)
      have hb2 := hbel.trans (hbx.mono hbel.size)
      have hav := areValues_any wc _ d.2 (hx.below hbx) (HU.out.below h3 hb2) hxl
      have HB2 := Lib.hid hb2
      clear hu hx hxl hbx hb2 hbel
      go_upto_region 4 with fail
      go_cut [26] (fun s wx => ∃ r : Bool, s = .bool r ∧ Below wc.heap.size wc wx ∧ (r = false → PropOK d.1 ∧ Vals d.2 ∧ d.2 ≠ []))
      case first =>
        by_cases hp : PropOK d.1
        · by_cases hv : Vals d.2
          · by_cases hn : d.2 = []
            · have z0 : ((d.2.length : Int) == 0) = true := by rw [hn]; rfl
              have HN := Lib.hid hn
              clear hp hv hn
              go_wp2_with (first | (go_at_call 30; (with_reducible refine hip.mono ?_); rintro e w1 ⟨r, rfl, rfl, hr1⟩; clear hr1) | (go_at_call 14; (with_reducible refine hav.mono ?_); rintro e w1 ⟨r2, rfl, hb1, hr2⟩; clear hr2; have m1 := (hb1.cell (p := ⟨tg, 1, none⟩) htg).trans t1))
              all_goals (go_meet; exact ⟨true, rfl, by first | assumption | exact Below.refl _ _, fun h => (by cases h)⟩)
            · have z0 : ((d.2.length : Int) == 0) = false := by
                rw [beq_eq_false_iff_ne]
                have : d.2.length ≠ 0 := fun e => hn (List.eq_nil_of_length_eq_zero e)
                omega
              have HN := Lib.hid (show PropOK d.1 ∧ Vals d.2 ∧ d.2 ≠ [] from ⟨hp, hv, hn⟩)
              clear hp hv hn
              go_wp2_with (first | (go_at_call 30; (with_reducible refine hip.mono ?_); rintro e w1 ⟨r, rfl, rfl, hr1⟩; clear hr1) | (go_at_call 14; (with_reducible refine hav.mono ?_); rintro e w1 ⟨r2, rfl, hb1, hr2⟩; clear hr2; have m1 := (hb1.cell (p := ⟨tg, 1, none⟩) htg).trans t1))
              all_goals (go_meet; exact ⟨_, rfl, by first | assumption | exact Below.refl _ _, fun _ => HN.out⟩)
          · have HV := Lib.hid hv
            clear hp hv
            go_wp2_with (first | (go_at_call 30; (with_reducible refine hip.mono ?_); rintro e w1 ⟨r, rfl, rfl, hr1⟩; clear hr1) | (go_at_call 14; (with_reducible refine hav.mono ?_); rintro e w1 ⟨r2, rfl, hb1, hr2⟩; obtain rfl : r2 = false := (by cases r2 with | false => rfl | true => exact absurd (hr2 rfl) HV.out); clear hr2))
            all_goals (go_meet; exact ⟨true, rfl, by first | assumption | exact Below.refl _ _, fun h => (by cases h)⟩)
        · have HP := Lib.hid hp
          clear hp
          go_wp2_with (go_at_call 30; (with_reducible refine hip.mono ?_); rintro e w1 ⟨r, rfl, rfl, hr1⟩; obtain rfl : r = false := (by cases r with | false => rfl | true => exact absurd (hr1 rfl) HP.out); clear hr1)
          go_meet
          exact ⟨true, rfl, Below.refl _ _, fun h => (by cases h)⟩
      case rest =>
      clear hip hav t0 t1
      obtain ⟨r, rfl, hb3, hr3⟩ := hcut
      have HB3 := Lib.hid (HB2.out.trans (hb3.mono HB2.out.size))
      have HR3 := Lib.hid hr3
      clear hb3 hr3
      cases r with
      | true =>
        go_wp2
        go_ret
        exact ⟨false, rfl, HB3.out, fun h => by cases h⟩
      | false =>
        go_wp2
        go_roundg (ds.length - (q + 1))
        case measure => have h1 := HK.out; have h2 := HLT.out; omega
        case rel =>
          refine ⟨q + 1, HLT.out, rfl, by go_num, HB3.out, fun j hj hjq => ?_⟩
          by_cases e : j = q
          · subst e
            exact HX.out (fun y => PropOK y.1 ∧ Vals y.2 ∧ y.2 ≠ []) (HR3.out (by first | rfl | trivial))
          · exact HA.out j hj (by omega)
    · have hq' : q = ds.length := by omega
      have HALL := Lib.hid (show ∀ j (hj : j < ds.length), PropOK ds[j].1 ∧ Vals ds[j].2 ∧ ds[j].2 ≠ [] from fun j hj => HA.out j hj (by omega))
      by_cases h10 : ds.length ≤ 10
      · have y0 : decide (ds.length ≤ 10) = true := decide_eq_true h10
        have y1 : decide ((ds.length : Int) ≤ 10) = true := decide_eq_true (by omega)
        subst hq'
        go_wp2
        go_ret
        refine ⟨true, rfl, hbel, fun _ => ⟨h10, fun x hx => ?_⟩⟩
        obtain ⟨j, hj, rfl⟩ := List.mem_iff_getElem.1 hx; exact HALL.out j hj
      · have y0 : decide (ds.length ≤ 10) = false := decide_eq_false h10
        have y1 : decide ((ds.length : Int) ≤ 10) = false := decide_eq_false (by omega)
        subst hq'
        go_wp2
        go_ret
        exact ⟨false, rfl, hbel, fun h => by cases h⟩
end Go.Proofs.YtlglijnaeaonpaaGreatDoor.Css
