/- Slices of the parser's own: what they hold, cut and appended to at any place of their row. -/
import Derived.ArgAppend
import Derived.Deep.RegionLaw
import Derived.Lib.SlBytesConst
import Derived.Laws.CopyOwn
import Derived.OwnWalk
import Derived.Test.YtlglijnaeaonpaaGreatDoorMb
set_option linter.all false
/- Slices of the parser's own: what they hold, cut and appended to at any place of their row. -/
namespace Go.Proofs.YtlglijnaeaonpaaGreatDoor.Css
open Go.RowKit

theorem setCells_heap (b : Nat) (e : TypeId) (f : Nat × Nat) : ∀ (vs : List Value) (o : Nat) (w : World) (cur : Array Value), w.heap[b]? = some (.cells cur e f) →
    ∃ cur', (w.setCells b o vs).heap[b]? = some (.cells cur' e f) ∧ cur'.size = cur.size
  | [], o, w, cur, h => ⟨cur, h, rfl⟩
  | v :: r, o, w, cur, h => by
    obtain ⟨c, h1, h2⟩ := setCells_heap b e f r (o + 1) (w.setCell ⟨b, o, none⟩ v) _ (heap_set h o v)
    exact ⟨c, h1, by rw [h2]; simp⟩
theorem setCells_other (b : Nat) : ∀ (vs : List Value) (o : Nat) (w : World) (k : Nat), k ≠ b → (w.setCells b o vs).heap[k]? = w.heap[k]?
  | [], _, _, _, _ => rfl
  | v :: r, o, w, k, h => by rw [World.setCells, setCells_other b r _ _ k h, Below.heap_setCell _ _ _ _ h]
theorem setCells_size (b : Nat) : ∀ (vs : List Value) (o : Nat) (w : World), (w.setCells b o vs).heap.size = w.heap.size
  | [], _, _ => rfl
  | v :: r, o, w => by rw [World.setCells, setCells_size b r]; simp
theorem setCells_grown (b : Nat) : ∀ (vs : List Value) (o : Nat) (w : World), w.grownBy (w.setCells b o vs) (some b) := by
  intro vs o w
  refine ⟨?_, ?_, ?_, Nat.le_of_eq (setCells_size b vs o w).symm, fun k _ hk => setCells_other b vs o w k (fun e => hk (by rw [e]))⟩
  all_goals
    induction vs generalizing o w with
    | nil => rfl
    | cons v r ih => rw [World.setCells, ih]; rfl

/-- A slice value of n elements of type e, sz cells each, holds the cells cs, in a row of a block from B on that nobody has frozen. -/
def Own (w : World) (B : Nat) (e : TypeId) (sz : Nat) (v : Value) (n : Nat) (cs : List Value) : Prop :=
  cs.length = n * sz ∧ ((v = .slice none 0 0 ∧ n = 0) ∨
    ∃ g off cap cur, v = .slice (some ⟨g, off, none⟩) n cap ∧ B ≤ g ∧ w.heap[g]? = some (.cells cur e (0, 0)) ∧ off + cap * sz ≤ cur.size ∧ (∀ j u, cs[j]? = some u → cur[off + j]? = some u) ∧ n ≤ cap ∧ cap ≤ maxLen)

theorem Own.nil (w : World) (B : Nat) (e : TypeId) (sz : Nat) : Own w B e sz (.slice none 0 0) 0 [] := ⟨by simp, .inl ⟨rfl, rfl⟩⟩

theorem Own.lt {w : World} {B : Nat} {e : TypeId} {sz : Nat} {v : Value} {n : Nat} {cs : List Value} (h : Own w B e sz v n cs) : ∀ k, v.ownBlock = some k → B ≤ k ∧ k < w.heap.size ∧ ∃ cur, w.heap[k]? = some (.cells cur e (0, 0)) := by
  intro k hk
  rcases h.2 with ⟨rfl, _⟩ | ⟨g, off, cap, cur, rfl, hB, hg, _⟩
  · cases hk
  · cases hk; exact ⟨hB, (Array.getElem?_eq_some_iff.1 hg).1, cur, hg⟩

/-- What is owned stays owned where its block stays. -/
theorem Own.keep {w w' : World} {B : Nat} {e : TypeId} {sz : Nat} {v : Value} {n : Nat} {cs : List Value} (h : Own w B e sz v n cs) (hk : ∀ k, v.ownBlock = some k → w'.heap[k]? = w.heap[k]?) : Own w' B e sz v n cs := by
  refine ⟨h.1, ?_⟩
  rcases h.2 with h2 | ⟨g, off, cap, cur, rfl, hB, hg, r⟩
  · exact .inl h2
  · exact .inr ⟨g, off, cap, cur, rfl, hB, by rw [hk g rfl]; exact hg, r⟩

theorem Own.cells {w : World} {B : Nat} {e : TypeId} {sz : Nat} {a : Addr} {n cap : Nat} {cs : List Value} (h : Own w B e sz (.slice (some a) n cap) n cs) :
    ∀ j u, cs[j]? = some u → w.cell? (a.add j) = some u := by
  intro j u hu
  rcases h.2 with ⟨h2, _⟩ | ⟨g, off, cap, cur, e1, hB, hg, hs, hc, _⟩
  · cases h2
  · cases e1
    rw [Addr.add_lit, cell_at hg]
    exact hc j u hu

/-- The first elements alone. -/
theorem Own.take {w : World} {B : Nat} {e : TypeId} {sz : Nat} {a : Addr} {n cap : Nat} {cs : List Value} (h : Own w B e sz (.slice (some a) n cap) n cs) (m : Nat) (hm : m ≤ n) :
    Own w B e sz (.slice (some a) m cap) m (cs.take (m * sz)) := by
  refine ⟨by rw [List.length_take, h.1]; exact Nat.min_eq_left (Nat.mul_le_mul_right _ hm), ?_⟩
  rcases h.2 with ⟨h2, _⟩ | ⟨g, off, cap, cur, e1, hB, hg, hs, hc, hn, hx⟩
  · cases h2
  · cases e1
    refine .inr ⟨g, off, cap, cur, rfl, hB, hg, hs, fun j u hj => ?_, Nat.le_trans hm hn, hx⟩
    rw [List.getElem?_take] at hj
    split at hj
    · exact hc j u hj
    · cases hj

/-- All but the first elements. -/
theorem Own.drop {w : World} {B : Nat} {e : TypeId} {sz : Nat} {g off n cap : Nat} {cs : List Value} (h : Own w B e sz (.slice (some ⟨g, off, none⟩) n cap) n cs) (m : Nat) (hm : m ≤ n) :
    Own w B e sz (.slice (some ⟨g, off + m * sz, none⟩) (n - m) (cap - m)) (n - m) (cs.drop (m * sz)) := by
  refine ⟨by rw [List.length_drop, h.1, Nat.sub_mul], ?_⟩
  rcases h.2 with ⟨h2, _⟩ | ⟨g, off, cap, cur, e1, hB, hg, hs, hc, hn, hx⟩
  · cases h2
  · cases e1
    refine .inr ⟨g, off + m * sz, cap - m, cur, rfl, hB, hg, ?_, fun j u hj => ?_, by omega, by omega⟩
    · rw [Nat.sub_mul]
      have := Nat.mul_le_mul_right sz (Nat.le_trans hm hn)
      omega
    · rw [List.getElem?_drop] at hj
      rw [Nat.add_assoc]
      exact hc _ u hj
theorem Own.end_ {w : World} {B : Nat} {e : TypeId} {sz : Nat} {g off n cap : Nat} {cs : List Value} (h : Own w B e sz (.slice (some ⟨g, off, none⟩) n cap) n cs) :
    Own w B e sz (.slice (some ⟨g, off, none⟩) 0 0) 0 [] := by
  refine ⟨by simp, ?_⟩
  rcases h.2 with ⟨h2, _⟩ | ⟨g, off, cap, cur, e1, hB, hg, hs, hc, hn, hx⟩
  · cases h2
  · cases e1
    exact .inr ⟨g, off, 0, cur, rfl, hB, hg, by omega, fun j u hj => by simp at hj, Nat.le_refl _, by unfold maxLen; omega⟩

section
variable {P : Program} (w : World)
theorem run_append_Own (B : Nat) (t ty e : TypeId) (i : TypeInfo) (z : Value) (size bytes : Nat) (ht : P.underlying t = some (.slice e)) (hi : P.info? e = some i) (hz : i.zero = some z)
    (hsize : i.size = size) (hby : i.bytes = bytes) (hzs : z.cells.size = size) (hsz : 0 < size)
    (v : Value) (n : Nat) (cs : List Value) (hown : Own w B e size v n cs)
    (a : Addr) (m c : Nat) (news : List Value) (hl : news.length = m * size) (hnews : ∀ j u, news[j]? = some u → w.cell? (a.add j) = some u) (h1 : ∀ u ∈ news, u.oneCell' = true)
    (h63 : n + m ≤ maxLen) (hbytes : (n + m) * bytes ≤ 140737488355328) (hbase : B ≤ w.heap.size) :
    ∃ v' w', (Builtin.append_ #[t, t] ty #[v, .slice (some a) m c]).run P w = .ok v' w' ∧ Own w' B e size v' (n + m) (cs ++ news) ∧ w.grownBy w' v.ownBlock := by
  have hlen : (cs ++ news).length = (n + m) * size := by rw [List.length_append, hown.1, hl, Nat.add_mul]
  have ofRow : ∀ {w' : World} {v' : Value}, w'.ownsRow w.heap.size e size v' (n + m) (cs ++ news) → Own w' B e size v' (n + m) (cs ++ news) := by
    intro w' v' hr
    refine ⟨hlen, ?_⟩
    rcases hr.2 with h2 | ⟨g, cap, cur, rfl, hb, hg, hn, hm, hs, htk⟩
    · exact .inl h2
    · refine .inr ⟨g, 0, cap, cur, rfl, Nat.le_trans hbase hb, hg, by omega, fun j u hj => ?_, hn, hm⟩
      rw [← htk, List.getElem?_take] at hj
      split at hj
      · simpa using hj
      · cases hj
  rcases id hown.2 with ⟨rfl, rfl⟩ | ⟨g, off, cap, cur, rfl, hB, hg, hs, hc, hn, hm⟩
  · have hcs : cs = [] := List.eq_nil_of_length_eq_zero (by simpa using hown.1)
    subst hcs
    obtain ⟨v', w', r1, r2, r3, _⟩ := run_append_own (P := P) w w.heap.size t ty e i z size bytes ht hi hz hsize hby hzs hsz (.slice none 0 0) 0 [] (World.ownsRow_nil w _ e size) a m c news hl hnews h1 h63 hbytes (Nat.le_refl _)
    exact ⟨v', w', r1, ofRow r2, r3⟩
  · by_cases hr : n + m ≤ cap
    · subst hsize
      have hfit : off + (n + m) * i.size ≤ cur.size := Nat.le_trans (Nat.add_le_add_left (Nat.mul_le_mul_right _ hr) _) hs
      have hin : ∀ j, j < news.length → off + n * i.size + j < cur.size := by
        intro j hj
        rw [hl] at hj
        rw [Nat.add_mul] at hfit
        omega
      have hcell : ∀ j, j < news.length → (w.cell? ⟨g, off + n * i.size + j, none⟩).isSome = true := by
        intro j hj
        rw [cell_at hg]
        simpa using hin j hj
      refine ⟨_, _, run_append_room_cells (P := P) w t ty e i ht hi g off n cap a m c news hl hnews h1 hr hcell (fun j _ => frozen_at hg _), ⟨hlen, ?_⟩, setCells_grown g news _ w⟩
      obtain ⟨cur', hg', hs'⟩ := setCells_heap g e (0, 0) news (off + n * i.size) w cur hg
      refine .inr ⟨g, off, cap, cur', rfl, hB, hg', by omega, fun j u hj => ?_, hr, hm⟩
      rw [← cell_at hg']
      by_cases hjn : j < n * i.size
      · rw [List.getElem?_append_left (by rw [hown.1]; exact hjn)] at hj
        rw [World.cell?_setCells_out g news _ w _ (fun _ _ => .inl (by simp; omega)), cell_at hg]
        exact hc j u hj
      · rw [List.getElem?_append_right (by rw [hown.1]; omega), hown.1] at hj
        have hj' : j - n * i.size < news.length := (List.getElem?_eq_some_iff.1 hj).1
        have := World.cell?_setCells_in g news (off + n * i.size) w hcell (j - n * i.size) hj'
        rw [show off + n * i.size + (j - n * i.size) = off + j by omega] at this
        rw [this, ← hj, List.getElem?_eq_getElem hj']
    · obtain ⟨v', w', r1, r2, r3⟩ := run_append_arg_grows (P := P) w t ty e i z size bytes ht hi hz hsize hby hzs hsz ⟨g, off, none⟩ n cap cs hown.1 hown.cells a m c news hl hnews (by omega) h63 hbytes
      exact ⟨v', w', r1, ofRow r2, ⟨r3.os, r3.tape, r3.output, r3.size, fun k hk _ => r3.block k hk (by simp)⟩⟩
end

/-- append onto a slice of one's own, for the walk. -/
theorem wpList_append_Own {P : Program} (w : World) {ops : Array Oper} {rest : List Oper} {o : Oper} {a : Act} {Q : Exit → Act → World → Prop}
    (hg : o.guard = none) (s x : Operand) (t : TypeId) (hop : o.op = Op.call { callee := Callee.builtin Builtin.append, args := #[s, x], argTypes := #[t, t] })
    (B : Nat) (e : TypeId) (i : TypeInfo) (z : Value) (size bytes : Nat) (h1 : P.underlying t = some (.slice e)) (h2 : P.info? e = some i) (h3 : i.zero = some z) (h4 : i.size = size) (h5 : i.bytes = bytes) (h6 : z.cells.size = size) (h7 : 0 < size)
    (v : Value) (n : Nat) (cs : List Value) (hs : a.eval s = v) (hown : Own w B e size v n cs)
    (ad : Addr) (m c : Nat) (news : List Value) (hx : a.eval x = .slice (some ad) m c) (hn : news.length = m * size) (hc : ∀ j u, news[j]? = some u → w.cell? (ad.add j) = some u) (h1c : ∀ u ∈ news, u.oneCell' = true)
    (b1 : n + m ≤ maxLen) (b2 : (n + m) * bytes ≤ 140737488355328) (b3 : B ≤ w.heap.size)
    (hK : ∀ v' w', Own w' B e size v' (n + m) (cs ++ news) → w.grownBy w' v.ownBlock → wpList P ops Q rest (a.put o.dst v') w') :
    wpList P ops Q (o :: rest) a w := by
  refine wpList_plain hg fun K hK' => ?_
  obtain ⟨v', w', hrun, r1, r2⟩ := run_append_Own (P := P) w B t o.type e i z size bytes h1 h2 h3 h4 h5 h6 h7 v n cs hown ad m c news hn hc h1c b1 b2 b3
  unfold Oper.wp
  simp [execOp, hop, resolve, invoke, builtin, hs, hx, hrun, Result.andThen]
  exact hK' _ _ (hK v' w' r1 r2)

end Go.Proofs.YtlglijnaeaonpaaGreatDoor.Css
/- The parser's memory: what its block holds, its buffer of tokens and its stack of states. -/
namespace Go.Proofs.YtlglijnaeaonpaaGreatDoor.Css
open Go.RowKit

theorem info59 : (Tryz.prog.info? 59).map (fun i => (i.zero, i.size, i.bytes)) = some (some (.agg #[.int .u32 0, .slice none 0 0]), 2, 32) := by kernel_rfl
theorem info88 : (Tryz.prog.info? 88).map (fun i => (i.zero, i.size, i.bytes)) = some (some .nilFunc, 1, 8) := by kernel_rfl

theorem ty_eq {c c' : Array Value} {t t' : TypeId} {f f' : Nat × Nat} {o : Option Obj} (h : o = some (Obj.cells c t f)) (h' : o = some (Obj.cells c' t' f')) : t = t' := by
  rw [h] at h'
  simp only [Option.some.injEq, Obj.cells.injEq] at h'
  exact h'.2.1

/-- Rows that the parser never writes: bytes and pieces. -/
def KT (t : TypeId) : Prop := t = 5 ∨ t = 55
instance (t : TypeId) : Decidable (KT t) := inferInstanceAs (Decidable (t = 5 ∨ t = 55))
/-- Memory goes on: below block B all is as it was, and so is every row of bytes and of pieces. -/
structure Adv (B : Nat) (w w' : World) : Prop where
  below : Below B w w'
  kt : ∀ (k : Nat) (cs : Array Value) (t : TypeId) (f : Nat × Nat), KT t → w.heap[k]? = some (Obj.cells cs t f) → w'.heap[k]? = some (Obj.cells cs t f)

namespace Adv
variable {B : Nat} {a w w' : World}
theorem u8 (h : Adv B w w') (k : Nat) (cs : Array Value) (f : Nat × Nat) : w.heap[k]? = some (Obj.cells cs 5 f) → w'.heap[k]? = some (Obj.cells cs 5 f) := h.kt k cs 5 f (.inl rfl)
theorem refl (B : Nat) (w : World) : Adv B w w := ⟨Below.refl _ _, fun _ _ _ _ _ h => h⟩
theorem trans (h : Adv B a w) (k : Adv B w w') : Adv B a w' := ⟨h.below.trans k.below, fun i cs t f ht hi => k.kt i cs t f ht (h.kt i cs t f ht hi)⟩
theorem size (h : Adv B a w) : a.heap.size ≤ w.heap.size := h.below.size
theorem ofBelow (h : Below w.heap.size w w') (hB : B ≤ w.heap.size) : Adv B w w' :=
  ⟨h.mono hB, fun k cs t f _ hk => by rw [h.block k (Array.getElem?_eq_some_iff.1 hk).1]; exact hk⟩
theorem alloc (h : Adv B a w) (hB : B ≤ w.heap.size) (o : Obj) : Adv B a (w.alloc o) := h.trans (ofBelow ((Below.refl _ _).alloc (Nat.le_refl _) o) hB)
theorem drew (h : Adv B a w) : Adv B a w.drew := ⟨h.below.drew, h.kt⟩
theorem drewN (h : Adv B a w) (n : Nat) : Adv B a (w.drewN n) := ⟨⟨h.below.os, h.below.tape, h.below.output, h.below.size, h.below.block⟩, h.kt⟩
theorem setCell (h : Adv B a w) {b i : Nat} {cs : Array Value} {t : TypeId} {f : Nat × Nat} (hb : w.heap[b]? = some (.cells cs t f)) (ht : ¬ KT t) (hB : B ≤ b) (v : Value) : Adv B a (w.setCell ⟨b, i, none⟩ v) :=
  h.trans ⟨(Below.refl B w).setCell hB v, fun k cs' t' f' hk' hk => by
    rw [Below.heap_setCell _ _ _ _ (by rintro rfl; exact ht (ty_eq hb hk ▸ hk'))]; exact hk⟩
theorem grown {row : Option Nat} (h : Adv B a w) (hg : w.grownBy w' row) (hB : B ≤ w.heap.size) (hr : ∀ k, row = some k → B ≤ k ∧ ∃ (cs : Array Value) (t : TypeId) (f : Nat × Nat), w.heap[k]? = some (Obj.cells cs t f) ∧ ¬ KT t) : Adv B a w' :=
  h.trans ⟨(Below.refl B w).grown hg hB (fun k hk => (hr k hk).1), fun k cs t0 f hk' hk => by
    rw [hg.block k (Array.getElem?_eq_some_iff.1 hk).1 (fun e => by obtain ⟨_, cs', t, f', h1, h2⟩ := hr k e.symm; exact h2 (ty_eq hk h1 ▸ hk'))]; exact hk⟩
end Adv

/-- A token in memory: its kind, the place of its bytes, its capacity, its bytes. -/
structure Tok where
  tt : Int
  b : Nat
  off : Nat
  cap : Nat
  bs : List UInt8
def Tok.val (k : Tok) : Value := .slice (some ⟨k.b, k.off, none⟩) k.bs.length k.cap
def Tok.cells (k : Tok) : List Value := [.int .u32 k.tt, k.val]
/-- Its bytes lie there. -/
def Tok.Ok (w : World) (k : Tok) : Prop := k.bs.length ≤ k.cap ∧ ∃ (cs : Array Value) (f : Nat × Nat), w.heap[k.b]? = some (Obj.cells cs 5 f) ∧ ∀ i, i < k.bs.length → cs[k.off + i]? = some (.int .u8 (byte k.bs i))
theorem Tok.Ok.adv {B : Nat} {w w' : World} {k : Tok} (h : k.Ok w) (ha : Adv B w w') : k.Ok w' := by
  obtain ⟨h0, cs, f, h1, h2⟩ := h
  exact ⟨h0, cs, f, ha.u8 _ _ _ h1, h2⟩
theorem Tok.Ok.lies {w : World} {k : Tok} (h : k.Ok w) : Lies w k.b k.off k.bs := by
  obtain ⟨_, cs, f, h1, h2⟩ := h
  intro i hi
  rw [cell_at h1]; exact h2 i hi

def toksCells (l : List Tok) : List Value := l.flatMap Tok.cells
theorem toksCells_length (l : List Tok) : (toksCells l).length = l.length * 2 := by
  induction l with
  | nil => rfl
  | cons a l ih => simp [toksCells, Tok.cells] at *; omega
theorem toksCells_append (a b : List Tok) : toksCells (a ++ b) = toksCells a ++ toksCells b := by simp [toksCells]
theorem toksCells_get (l : List Tok) (i : Nat) (h : i < l.length) : (toksCells l)[i * 2]? = some (.int .u32 l[i].tt) ∧ (toksCells l)[i * 2 + 1]? = some l[i].val := by
  induction l generalizing i with
  | nil => simp at h
  | cons a l ih =>
    match i with
    | 0 => simp [toksCells, Tok.cells]
    | i + 1 =>
      have := ih i (by simpa using h)
      simp only [toksCells, List.flatMap_cons, Tok.cells, List.getElem_cons_succ] at this ⊢
      rw [show (i + 1) * 2 = i * 2 + 1 + 1 by omega]
      simpa using this

/-- The buffer's value holds these tokens. -/
def Buf (w : World) (B : Nat) (v : Value) (l : List Tok) : Prop := Own w B 59 2 v l.length (toksCells l) ∧ ∀ k ∈ l, k.Ok w
/-- A function as a value. -/
def fnVal (f : Nat) : Value := .func (.func f) #[] #[]
/-- The stack's value holds these states, the last one on top. -/
def Stk (w : World) (B : Nat) (v : Value) (l : List Nat) : Prop := Own w B 88 1 v l.length (l.map fnVal)

/-- What the parser's fields hold (no error is told, blanks are not kept). -/
structure PR where
  state : Value
  ep : Int
  buf : Value
  level : Int
  data : Value
  tt : Int
  pw : Bool
  pe : Bool
  pc : Bool
  ss : Bool
def PR.cells (X : Lx) (r : PR) : Array Value :=
  #[.pointer (some ⟨X.l, 0, none⟩), r.state, .string ⟨#[]⟩, .int .i64 r.ep, r.buf, .int .i64 r.level, r.data, .int .u32 r.tt, .bool false, .bool r.pw, .bool r.pe, .bool r.pc, .bool r.ss]

structure PB (X : Lx) (pp B : Nat) (w : World) (p : Nat) (r : PR) (fns : List Nat) : Prop where
  lx : X.At w w p p
  tb : ∃ (cs : Array Value) (f : Nat × Nat), w.heap[X.b]? = some (Obj.cells cs 5 f)
  par : w.heap[pp]? = some (.cells (r.cells X) 80 (0, 0))
  bl : B ≤ X.l
  bg : B ≤ X.g
  bb : B ≤ X.b
  bp : B ≤ pp
  b0 : 0 < B
  nobs : NoBs X.t
  stk : Stk w B r.state fns
structure PAt (X : Lx) (pp B : Nat) (w : World) (p : Nat) (r : PR) (toks : List Tok) (fns : List Nat) : Prop extends PB X pp B w p r fns where
  buf : Buf w B r.buf toks

theorem Lx.At.here {X : Lx} {w0 w : World} {p s : Nat} (h : X.At w0 w p s) : X.At w w p s :=
  { h with hg := (Array.getElem?_eq_some_iff.1 h.inp).1, keep := Keep.refl _ _ }

namespace PB
variable {X : Lx} {pp B : Nat} {w : World} {p : Nat} {r : PR} {fns : List Nat}
theorem hB (h : PB X pp B w p r fns) : B ≤ w.heap.size := Nat.le_of_lt (Nat.lt_of_le_of_lt h.bp (Array.getElem?_eq_some_iff.1 h.par).1)
theorem npg (h : PB X pp B w p r fns) : pp ≠ X.g := by rintro rfl; exact absurd (ty_eq h.par h.lx.inp) (by decide)
theorem npl (h : PB X pp B w p r fns) : pp ≠ X.l := by rintro rfl; exact absurd (ty_eq h.par h.lx.lex) (by decide)
theorem npb (h : PB X pp B w p r fns) : pp ≠ X.b := by rintro rfl; obtain ⟨cs, f, h1⟩ := h.tb; exact absurd (ty_eq h.par h1) (by decide)

/-- Whatever happens elsewhere in memory. -/
theorem step (h : PB X pp B w p r fns) {w' : World} (hl : w'.heap[X.l]? = w.heap[X.l]?) (hg : w'.heap[X.g]? = w.heap[X.g]?) (hp : w'.heap[pp]? = w.heap[pp]?)
    (ho : ∀ k, r.state.ownBlock = some k → w'.heap[k]? = w.heap[k]?) (ha : Adv B w w') : PB X pp B w' p r fns where
  lx := {
    lex := by rw [hl]; exact h.lx.lex
    inp := by rw [hg]; exact h.lx.inp
    txt := fun i hi => by
      obtain ⟨cs, f, h1⟩ := h.tb
      rw [cell_at (ha.u8 _ _ _ h1), ← cell_at h1]; exact h.lx.txt i hi
    io := by rw [ha.below.cell (p := ⟨0, 0, none⟩) h.b0]; exact h.lx.io
    nb := h.lx.nb
    nl := h.lx.nl
    n0 := h.lx.n0
    hg := Nat.lt_of_lt_of_le h.lx.hg ha.size
    pl := h.lx.pl
    sp := h.lx.sp
    cp := h.lx.cp
    big := h.lx.big
    keep := Keep.refl _ _ }
  tb := by obtain ⟨cs, f, h1⟩ := h.tb; exact ⟨cs, f, ha.u8 _ _ _ h1⟩
  par := by rw [hp]; exact h.par
  bl := h.bl
  bg := h.bg
  bb := h.bb
  bp := h.bp
  b0 := h.b0
  nobs := h.nobs
  stk := Own.keep h.stk fun k hk => ho k hk

theorem nstk (h : PB X pp B w p r fns) {k : Nat} (hk : r.state.ownBlock = some k) : k ≠ pp ∧ k ≠ X.g ∧ k ≠ X.l := by
  obtain ⟨_, _, cur, hc⟩ := Own.lt h.stk k hk
  refine ⟨?_, ?_, ?_⟩ <;> rintro rfl
  · exact absurd (ty_eq h.par hc) (by decide)
  · exact absurd (ty_eq h.lx.inp hc) (by decide)
  · exact absurd (ty_eq h.lx.lex hc) (by decide)

/-- A row of type t has been written, and new blocks made. -/
theorem grown (h : PB X pp B w p r fns) {w' : World} {row : Option Nat} (hg : w.grownBy w' row) (hr : ∀ k, row = some k → B ≤ k ∧ ∃ (cs : Array Value) (f : Nat × Nat), w.heap[k]? = some (Obj.cells cs 59 f)) :
    PB X pp B w' p r fns ∧ Adv B w w' := by
  have hne : ∀ (k : Nat) (c : Array Value) (t : TypeId) (f : Nat × Nat), w.heap[k]? = some (Obj.cells c t f) → t ≠ 59 → w'.heap[k]? = w.heap[k]? := by
    intro k c t f hk ht
    refine hg.block k (Array.getElem?_eq_some_iff.1 hk).1 (fun e => ?_)
    obtain ⟨_, cs, f', h1⟩ := hr k e.symm
    exact ht (ty_eq hk h1)
  have ha : Adv B w w' := (Adv.refl B w).grown hg h.hB fun k hk => by
    obtain ⟨h0, cs, f', h1⟩ := hr k hk
    exact ⟨h0, cs, _, f', h1, by decide⟩
  refine ⟨h.step (hne _ _ _ _ h.lx.lex (by decide)) (hne _ _ _ _ h.lx.inp (by decide)) (hne _ _ _ _ h.par (by decide)) (fun k hk => ?_) ha, ha⟩
  obtain ⟨_, _, cur, hc⟩ := Own.lt h.stk k hk
  exact hne _ _ _ _ hc (by decide)

/-- A field of the parser is stored. -/
theorem set (h : PB X pp B w p r fns) (i : Nat) (v : Value) (r' : PR) (hr : r'.cells X = (r.cells X).setIfInBounds i v) {fns' : List Nat} (hs : Stk w B r'.state fns') :
    PB X pp B (w.setCell ⟨pp, i, none⟩ v) p r' fns' ∧ Adv B w (w.setCell ⟨pp, i, none⟩ v) := by
  have hbl : ∀ k, k ≠ pp → (w.setCell ⟨pp, i, none⟩ v).heap[k]? = w.heap[k]? := fun k hk => Below.heap_setCell _ _ _ _ hk
  have ha : Adv B w (w.setCell ⟨pp, i, none⟩ v) := (Adv.refl B w).setCell h.par (by decide) h.bp v
  have h0 : 0 ≠ pp := by
    rintro rfl
    have := h.lx.io
    rw [cell_at h.par] at this
    simp [PR.cells] at this
  refine ⟨⟨⟨?_, ?_, ?_, ?_, h.lx.nb, h.lx.nl, h.lx.n0, by simpa using h.lx.hg, h.lx.pl, h.lx.sp, h.lx.cp, h.lx.big, Keep.refl _ _⟩, ?_, ?_, h.bl, h.bg, h.bb, h.bp, h.b0, h.nobs, Own.keep hs fun k hk => hbl k ?_⟩, ha⟩
  · rw [hbl _ (Ne.symm h.npl)]; exact h.lx.lex
  · rw [hbl _ (Ne.symm h.npg)]; exact h.lx.inp
  · intro j hj
    obtain ⟨cs, f, h1⟩ := h.tb
    rw [cell_at (ha.u8 _ _ _ h1), ← cell_at h1]; exact h.lx.txt j hj
  · rw [World.cell?_setCell_other]; exact h.lx.io; intro e; exact h0 (congrArg Addr.block e).symm
  · obtain ⟨cs, f, h1⟩ := h.tb; exact ⟨cs, f, ha.u8 _ _ _ h1⟩
  · rw [heap_set h.par, hr]
  · rintro rfl; obtain ⟨_, _, cur, hc⟩ := Own.lt hs _ hk; exact absurd (ty_eq h.par hc) (by decide)
end PB

namespace PAt
variable {X : Lx} {pp B : Nat} {w : World} {p : Nat} {r : PR} {toks : List Tok} {fns : List Nat}
theorem hB (h : PAt X pp B w p r toks fns) : B ≤ w.heap.size := h.toPB.hB
theorem nbuf (h : PAt X pp B w p r toks fns) {k : Nat} (hk : r.buf.ownBlock = some k) : k ≠ pp ∧ k ≠ X.g ∧ k ≠ X.l := by
  obtain ⟨_, _, cur, hc⟩ := h.buf.1.lt k hk
  refine ⟨?_, ?_, ?_⟩ <;> rintro rfl
  · exact absurd (ty_eq h.par hc) (by decide)
  · exact absurd (ty_eq h.lx.inp hc) (by decide)
  · exact absurd (ty_eq h.lx.lex hc) (by decide)

/-- Whatever happens elsewhere in memory. -/
theorem step (h : PAt X pp B w p r toks fns) {w' : World} (hl : w'.heap[X.l]? = w.heap[X.l]?) (hg : w'.heap[X.g]? = w.heap[X.g]?) (hp : w'.heap[pp]? = w.heap[pp]?)
    (ho : ∀ k, r.buf.ownBlock = some k ∨ r.state.ownBlock = some k → w'.heap[k]? = w.heap[k]?) (ha : Adv B w w') : PAt X pp B w' p r toks fns :=
  ⟨h.toPB.step hl hg hp (fun k hk => ho k (.inr hk)) ha, ⟨h.buf.1.keep fun k hk => ho k (.inl hk), fun k hk => (h.buf.2 k hk).adv ha⟩⟩

/-- New blocks, and nothing else. -/
theorem below (h : PAt X pp B w p r toks fns) {w' : World} (hb : Below w.heap.size w w') : PAt X pp B w' p r toks fns :=
  h.step (hb.block _ (Array.getElem?_eq_some_iff.1 h.lx.lex).1) (hb.block _ (Array.getElem?_eq_some_iff.1 h.lx.inp).1) (hb.block _ (Array.getElem?_eq_some_iff.1 h.par).1)
    (fun k hk => hb.block k (hk.elim (fun e => (h.buf.1.lt k e).2.1) (fun e => (Own.lt h.stk k e).2.1))) (Adv.ofBelow hb h.hB)
theorem alloc (h : PAt X pp B w p r toks fns) (o : Obj) : PAt X pp B (w.alloc o) p r toks fns := h.below ((Below.refl _ _).alloc (Nat.le_refl _) o)
theorem drew (h : PAt X pp B w p r toks fns) : PAt X pp B w.drew p r toks fns := h.below (Below.refl _ _).drew
theorem drewN (h : PAt X pp B w p r toks fns) (n : Nat) : PAt X pp B (w.drewN n) p r toks fns := h.below ⟨rfl, rfl, rfl, Nat.le_refl _, fun _ _ => rfl⟩

/-- The lexer has gone on. -/
theorem lex (h : PAt X pp B w p r toks fns) {w' : World} {q : Nat} (hA : X.At w w' q q) : PAt X pp B w' q r toks fns ∧ Adv B w w' := by
  have hbl : ∀ k, k < w.heap.size → k ≠ X.g → w'.heap[k]? = w.heap[k]? := fun k hk hn => hA.keep.block k hk hn
  have ha : Adv B w w' := ⟨⟨hA.keep.os, hA.keep.tape, hA.keep.output, hA.keep.size, fun k hk => hbl k (Nat.lt_of_lt_of_le hk h.hB) (by have := h.bg; omega)⟩,
    fun k cs t f ht hk => by rw [hbl k (Array.getElem?_eq_some_iff.1 hk).1 (by rintro rfl; have e := ty_eq h.lx.inp hk; subst e; exact absurd ht (by decide))]; exact hk⟩
  refine ⟨⟨⟨hA.here, ?_, ?_, h.bl, h.bg, h.bb, h.bp, h.b0, h.nobs, Own.keep h.stk fun k hk => hbl k (Own.lt h.stk k hk).2.1 (h.toPB.nstk hk).2.1⟩, ⟨h.buf.1.keep fun k hk => hbl k (h.buf.1.lt k hk).2.1 (h.nbuf hk).2.1, fun k hk => (h.buf.2 k hk).adv ha⟩⟩, ha⟩
  · obtain ⟨cs, f, h1⟩ := h.tb; exact ⟨cs, f, ha.u8 _ _ _ h1⟩
  · rw [hbl pp (Array.getElem?_eq_some_iff.1 h.par).1 h.toPB.npg]; exact h.par

/-- A field of the parser is stored. -/
theorem set (h : PAt X pp B w p r toks fns) (i : Nat) (v : Value) (r' : PR) (hr : r'.cells X = (r.cells X).setIfInBounds i v) {toks' : List Tok} {fns' : List Nat} (hb : Buf w B r'.buf toks') (hs : Stk w B r'.state fns') :
    PAt X pp B (w.setCell ⟨pp, i, none⟩ v) p r' toks' fns' ∧ Adv B w (w.setCell ⟨pp, i, none⟩ v) := by
  obtain ⟨h1, ha⟩ := h.toPB.set i v r' hr hs
  refine ⟨⟨h1, ⟨hb.1.keep fun k hk => Below.heap_setCell _ _ _ _ ?_, fun k hk => (hb.2 k hk).adv ha⟩⟩, ha⟩
  rintro rfl; obtain ⟨_, _, cur, hc⟩ := hb.1.lt _ hk; exact absurd (ty_eq h.par hc) (by decide)

/-- The buffer has been appended to (in place or anew), and its new value is stored. -/
theorem pushed (h : PAt X pp B w p r toks fns) {w1 : World} {v' : Value} {tk : Tok} (hg : w.grownBy w1 r.buf.ownBlock) (ho : Own w1 B 59 2 v' (toks.length + 1) (toksCells toks ++ tk.cells)) (hk : tk.Ok w) :
    PAt X pp B (w1.setCell ⟨pp, 4, none⟩ v') p { r with buf := v' } (toks ++ [tk]) fns ∧ Adv B w (w1.setCell ⟨pp, 4, none⟩ v') := by
  obtain ⟨h1, ha1⟩ := h.toPB.grown hg fun k hk => by obtain ⟨a, _, c, d⟩ := h.buf.1.lt k hk; exact ⟨a, c, _, d⟩
  obtain ⟨h2, ha2⟩ := h1.set 4 v' { r with buf := v' } rfl h1.stk
  refine ⟨⟨h2, ⟨?_, fun k hk' => ?_⟩⟩, ha1.trans ha2⟩
  · have : Own w1 B 59 2 v' (toks ++ [tk]).length (toksCells (toks ++ [tk])) := by
      rw [toksCells_append, List.length_append]; simpa [toksCells] using ho
    refine this.keep fun k hk' => Below.heap_setCell _ _ _ _ ?_
    rintro rfl; obtain ⟨_, _, cur, hc⟩ := ho.lt _ hk'; exact absurd (ty_eq h1.par hc) (by decide)
  · rcases List.mem_append.1 hk' with hk' | hk'
    · exact ((h.buf.2 k hk').adv ha1).adv ha2
    · obtain rfl := List.mem_singleton.1 hk'; exact (hk.adv ha1).adv ha2

variable (h : PAt X pp B w p r toks fns)
include h
theorem f0 : w.cell? ⟨pp, 0, none⟩ = some (.pointer (some ⟨X.l, 0, none⟩)) := by rw [cell_at h.par]; rfl
theorem f1 : w.cell? ⟨pp, 1, none⟩ = some r.state := by rw [cell_at h.par]; rfl
theorem f2 : w.cell? ⟨pp, 2, none⟩ = some (.string ⟨#[]⟩) := by rw [cell_at h.par]; rfl
theorem f3 : w.cell? ⟨pp, 3, none⟩ = some (.int .i64 r.ep) := by rw [cell_at h.par]; rfl
theorem f4 : w.cell? ⟨pp, 4, none⟩ = some r.buf := by rw [cell_at h.par]; rfl
theorem f5 : w.cell? ⟨pp, 5, none⟩ = some (.int .i64 r.level) := by rw [cell_at h.par]; rfl
theorem f6 : w.cell? ⟨pp, 6, none⟩ = some r.data := by rw [cell_at h.par]; rfl
theorem f7 : w.cell? ⟨pp, 7, none⟩ = some (.int .u32 r.tt) := by rw [cell_at h.par]; rfl
theorem f8 : w.cell? ⟨pp, 8, none⟩ = some (.bool false) := by rw [cell_at h.par]; rfl
theorem f9 : w.cell? ⟨pp, 9, none⟩ = some (.bool r.pw) := by rw [cell_at h.par]; rfl
theorem f10 : w.cell? ⟨pp, 10, none⟩ = some (.bool r.pe) := by rw [cell_at h.par]; rfl
theorem f11 : w.cell? ⟨pp, 11, none⟩ = some (.bool r.pc) := by rw [cell_at h.par]; rfl
theorem f12 : w.cell? ⟨pp, 12, none⟩ = some (.bool r.ss) := by rw [cell_at h.par]; rfl
theorem ff (i : Nat) : w.frozen? ⟨pp, i, none⟩ = false := frozen_at h.par i
end PAt

end Go.Proofs.YtlglijnaeaonpaaGreatDoor.Css
/- The parser's small methods. -/
namespace Go.Proofs.YtlglijnaeaonpaaGreatDoor.Css
open Go.RowKit

section
variable (X : Lx) (pp B : Nat) (w : World) (p : Nat) (r : PR) (toks : List Tok) (fns : List Nat) (h : PAt X pp B w p r toks fns)
include h

theorem values_any : Calls Tryz.prog 23 #[.pointer (some ⟨pp, 0, none⟩)] w fun e w' => e = .returned r.buf ∧ w = w' := by
  have h4 := h.f4
  go_enter Tryz.func23, Tryz.ntmps23
  go_wp2
  go_ret
  exact ⟨rfl, rfl⟩

theorem lexErr_any (hp : p = X.t.length) : Calls Tryz.prog 48 #[.pointer (some ⟨X.l, 0, none⟩)] w fun e w' => e = .returned (.iface 198 (.pointer (some X.eof))) ∧ PAt X pp B w' p r toks fns ∧ Adv B w w' := by
  have hl := h.lx.c0
  have H := h
  go_enter Tryz.func48, Tryz.ntmps48
  go_wp2_with (go_at_call 65; ((with_reducible refine (err_yes X w _ _ _ h.lx hp).mono ?_); (rintro e w' ⟨rfl, hA⟩)))
  go_ret
  exact ⟨rfl, h.lex hA⟩

theorem err_any (hp : p = X.t.length) : Calls Tryz.prog 24 #[.pointer (some ⟨pp, 0, none⟩)] w fun e w' => e = .returned (.iface 198 (.pointer (some X.eof))) ∧ PAt X pp B w' p r toks fns ∧ Adv B w w' := by
  have h0 := h.f0
  have h2 := h.f2
  go_enter Tryz.func24, Tryz.ntmps24
  go_wp2_with (go_at_call 48; ((with_reducible refine (lexErr_any X pp B _ _ _ _ _ h hp).mono ?_); (rintro e w' ⟨rfl, hA⟩)))
  go_ret
  exact ⟨rfl, hA⟩

set_option maxHeartbeats 1000000 in
theorem initBuf_any : Calls Tryz.prog 57 #[.pointer (some ⟨pp, 0, none⟩)] w fun e w' => e = .returned (.tuple #[]) ∧ ∃ v, PAt X pp B w' p { r with buf := v } [] fns ∧ Adv B w w' := by
  have h4 := h.f4
  have hff := h.ff
  have hown := h.buf.1
  rcases id hown.2 with ⟨hv, _⟩ | ⟨g, off, cap, cur, hv, _, _, _, _, hn, hm⟩
  · rw [hv] at h4
    go_enter Tryz.func57, Tryz.ntmps57
    go_wp2
    go_end0
    obtain ⟨h1, h2⟩ := h.set 4 (.slice none 0 0) { r with buf := .slice none 0 0 } rfl (toks' := []) (fns' := fns) ⟨Own.nil _ _ _ _, fun k hk => by cases hk⟩ h.stk
    exact ⟨rfl, _, h1, h2⟩
  · rw [hv] at h4 hown
    unfold maxLen at hm
    have h1 := h.set 4 (.slice (some ⟨g, off, none⟩) 0 cap) { r with buf := .slice (some ⟨g, off, none⟩) 0 cap } rfl (toks' := []) (fns' := fns) ⟨by simpa [toksCells] using hown.take 0 (Nat.zero_le _), fun k hk => by cases hk⟩ h.stk
    clear hv hown
    go_enter Tryz.func57, Tryz.ntmps57
    go_wp2
    go_end0
    exact ⟨rfl, _, h1.1, h1.2⟩

set_option maxRecDepth 100000 in
set_option maxHeartbeats 1000000 in
theorem push_any (tk : Tok) (hk : tk.Ok w) (hlen : toks.length ≤ 1000000) :
    Calls Tryz.prog 60 #[.pointer (some ⟨pp, 0, none⟩), .int .u32 tk.tt, tk.val] w fun e w' => e = .returned (.tuple #[]) ∧ ∃ v, PAt X pp B w' p { r with buf := v } (toks ++ [tk]) fns ∧ Adv B w w' := by
  obtain ⟨i0, hi, hz0, hz1, hz2⟩ := info_parts info59
  have h4 := h.f4
  have hown := h.buf.1
  have hB := h.hB
  obtain ⟨v, hv⟩ : ∃ v, v = r.buf := ⟨_, rfl⟩
  rw [← hv] at h4 hown
  have HV := Lib.hid hv
  clear hv
  have HK := Lib.hid hk
  clear hk
  obtain ⟨tt, b, off, cap, bs⟩ := tk
  simp only [Tok.val]
  go_enter Tryz.func60, Tryz.ntmps60
  go_wp2_with (first | (at_builtin; refine wpList_append_Own _ rfl _ _ 56 rfl B 59 i0 (.agg #[.int .u32 0, .slice none 0 0]) 2 32 Tryz.underlying56 hi hz0 hz1 hz2 rfl (by decide) _ _ _ rfl (hown.keep fun k hk => (Below.heap_alloc _ _ _ (hown.lt k hk).2.1)) ⟨w.heap.size, 0, none⟩ 1 1 [.int .u32 tt, .slice (some ⟨b, off, none⟩) bs.length cap] rfl rfl ?c1 ?c2 ?c3 ?c4 ?c5 ?_))
  case c1 =>
    intro j u hj
    match j, hj with
    | 0, hj => simp at hj; subst hj; simp [Addr.add]
    | 1, hj => simp at hj; subst hj; simp [Addr.add]
  case c2 => intro u hu; simp at hu; rcases hu with rfl | rfl <;> rfl
  case c3 => unfold maxLen; omega
  case c4 => omega
  case c5 => simp; omega
  intro v' w1 hown1 hgrow
  have hgrow' : w.grownBy w1 r.buf.ownBlock := by
    rw [← HV.out]
    exact ⟨hgrow.os, hgrow.tape, hgrow.output, Nat.le_trans (by simp) hgrow.size, fun k hk hn => (hgrow.block k (by simp; omega) hn).trans (Below.heap_alloc _ _ _ hk)⟩
  obtain ⟨h1, ha⟩ := h.pushed hgrow' hown1 HK.out
  obtain ⟨hb1, _⟩ := h.toPB.grown hgrow' fun k hk => by obtain ⟨a, _, c, d⟩ := h.buf.1.lt k hk; exact ⟨a, c, _, d⟩
  have hc : w1.cell? ⟨pp, 4, none⟩ = some r.buf := by rw [cell_at hb1.par]; rfl
  have hf : w1.frozen? ⟨pp, 4, none⟩ = false := frozen_at hb1.par 4
  obtain ⟨a, n, c, rfl⟩ : ∃ a n c, v' = .slice a n c := by
    rcases hown1.2 with ⟨hv, _⟩ | ⟨g, off, cap, cur, hv, _⟩ <;> exact ⟨_, _, _, hv⟩
  clear hown1 hgrow hgrow' hown h4
  go_wp2
  go_end0
  exact ⟨rfl, _, h1, ha⟩
end

end Go.Proofs.YtlglijnaeaonpaaGreatDoor.Css
/- The parser's rows of one byte; its next token. -/
namespace Go.Proofs.YtlglijnaeaonpaaGreatDoor.Css
open Go.RowKit

theorem alloc_new (w : World) (o : Obj) : (w.alloc o).heap[w.heap.size]? = some o := by
  show (w.heap.push o)[w.heap.size]? = _
  simp
/-- A new row that holds these bytes. -/
def NewRow (w : World) (l : List UInt8) (e : Ending) (w' : World) : Prop :=
  ∃ g, e = .returned (.slice (some ⟨g, 0, none⟩) l.length l.length) ∧ (∀ tt, (Tok.mk tt g 0 l.length l).Ok w') ∧ Below w.heap.size w w'
theorem NewRow.mk (w : World) (l : List UInt8) (cs : Array Value) (f : Nat × Nat) (h : cs = (cellsOf l).toArray) : NewRow w l (.returned (.slice (some ⟨w.heap.size, 0, none⟩) l.length l.length)) (w.alloc (.cells cs 5 f)) := by
  subst h
  refine ⟨_, rfl, fun tt => ⟨Nat.le_refl _, _, _, alloc_new _ _, fun i hi => ?_⟩, (Below.refl _ _).alloc (Nat.le_refl _) _⟩
  rw [Nat.zero_add, List.getElem?_toArray]
  exact cellsOf_get l i hi

theorem ws_bytes (w : World) : Calls Tryz.prog 77 #[] w (NewRow w [32]) := by
  have kc := fun (w : World) (C : Array Value) (n c : Nat) => Lib.run_convert_bytes_const (P := Tryz.prog) w 24 5 C n c Tryz.underlying24 Tryz.underlying5
  go_enter Tryz.func77, Tryz.ntmps77
  go_wp2
  go_ret
  exact NewRow.mk w [32] _ _ rfl
theorem end_bytes (w : World) : Calls Tryz.prog 43 #[] w (NewRow w [125]) := by
  have kc := fun (w : World) (C : Array Value) (n c : Nat) => Lib.run_convert_bytes_const (P := Tryz.prog) w 24 5 C n c Tryz.underlying24 Tryz.underlying5
  go_enter Tryz.func43, Tryz.ntmps43
  go_wp2
  go_ret
  exact NewRow.mk w [125] _ _ rfl
theorem empty_bytes (w : World) : Calls Tryz.prog 78 #[] w (NewRow w []) := by
  have kc := fun (w : World) (C : Array Value) (n c : Nat) => Lib.run_convert_bytes_const (P := Tryz.prog) w 24 5 C n c Tryz.underlying24 Tryz.underlying5
  go_enter Tryz.func78, Tryz.ntmps78
  go_wp2
  go_ret
  exact NewRow.mk w [] _ _ rfl

/-- The token from p to q. -/
def Lx.tok (X : Lx) (tt : Int) (p q : Nat) : Tok := ⟨tt, X.b, X.off + p, q - p, seg X.t p q⟩
theorem Lx.tok_val (X : Lx) (tt : Int) {p q : Nat} (h : q ≤ X.t.length) : (X.tok tt p q).val = .slice (some ⟨X.b, X.off + p, none⟩) (q - p : Nat) (q - p) := by
  unfold Lx.tok Tok.val
  rw [seg_length h]
theorem PB.tok {X : Lx} {pp B : Nat} {w : World} {p0 : Nat} {r : PR} {fns : List Nat} (h : PB X pp B w p0 r fns) (tt : Int) {p q : Nat} (hq : q ≤ X.t.length) : (X.tok tt p q).Ok w := by
  obtain ⟨cs, f, h1⟩ := h.tb
  refine ⟨Nat.le_of_eq (seg_length hq), cs, f, h1, fun i hi => ?_⟩
  have hi' : i < (seg X.t p q).length := hi
  have := h.lx.seg hq i hi'
  rw [cell_at h1] at this
  exact this

/-- The next token behind the blanks (a kind 0 is the end). -/
inductive Pop (X : Lx) (p : Nat) : Int → Value → Nat → Prop where
  | tk (p1 : Nat) (tt : Int) (q : Nat) : spanEnd X.t isWS p = p1 → Tk X.t p1 tt q → tt ≠ 20 → tt ≠ 32 → Pop X p tt (X.tok tt p1 q).val q
  | end_ : spanEnd X.t isWS p = X.t.length → Pop X p 0 (.slice none 0 0) X.t.length

/-- What the lexer gives, whatever comes. -/
inductive Nx (X : Lx) (p : Nat) : Int → Value → Nat → Prop where
  | tk (tt : Int) (q : Nat) : Tk X.t p tt q → Nx X p tt (X.tok tt p q).val q
  | end_ : p = X.t.length → Nx X p 0 (.slice none 0 0) X.t.length


theorem Pop.split {X : Lx} {p : Nat} {tt : Int} {v : Value} {q : Nat} (h : Pop X p tt v q) :
    (tt == 20) = false ∧ (tt == 32) = false ∧ ((isWS (byte X.t p) = false ∧ Nx X p tt v q) ∨ (isWS (byte X.t p) = true ∧ Nx X (spanEnd X.t isWS (p + 1)) tt v q)) := by
  cases hw : isWS (byte X.t p) with
  | false =>
    have e := spanEnd_stop (f := isWS) hw
    cases h with
    | tk p1 tt q a b c d => rw [e] at a; subst a; exact ⟨beq_eq_false_iff_ne.2 c, beq_eq_false_iff_ne.2 d, .inl ⟨rfl, .tk _ _ b⟩⟩
    | end_ a => rw [e] at a; exact ⟨rfl, rfl, .inl ⟨rfl, .end_ a⟩⟩
  | true =>
    have e := spanEnd_step (f := isWS) rfl hw
    cases h with
    | tk p1 tt q a b c d => rw [e] at a; subst a; exact ⟨beq_eq_false_iff_ne.2 c, beq_eq_false_iff_ne.2 d, .inr ⟨rfl, .tk _ _ b⟩⟩
    | end_ a => rw [e] at a; exact ⟨rfl, rfl, .inr ⟨rfl, .end_ a⟩⟩

section
variable (X : Lx) (pp B : Nat) (w : World) (p : Nat) (r : PR) (toks : List Tok) (fns : List Nat) (h : PAt X pp B w p r toks fns)
include h
theorem nxt_any (tt : Int) (v : Value) (q : Nat) (hx : Nx X p tt v q) : Calls Tryz.prog 63 #[.pointer (some ⟨X.l, 0, none⟩)] w fun e w' => e = .returned (.tuple #[.int .u32 tt, v]) ∧ PAt X pp B w' q r toks fns ∧ Adv B w w' := by
  cases hx with
  | tk tt q hk =>
    refine (next_any X w w p h.lx h.nobs tt q hk).mono ?_
    rintro e w' ⟨rfl, hA⟩
    exact ⟨by rw [Lx.tok_val X tt hA.pl], h.lex hA⟩
  | end_ hp =>
    refine (nx_end X w w p h.lx hp).mono ?_
    rintro e w' ⟨rfl, hA⟩
    rw [← hp]
    exact ⟨rfl, h.lex hA⟩

set_option maxRecDepth 100000 in
set_option maxHeartbeats 1000000 in
theorem pop_any (ac : Bool) (tt : Int) (v : Value) (q : Nat) (hx : Pop X p tt v q) :
    Calls Tryz.prog 44 #[.pointer (some ⟨pp, 0, none⟩), .bool ac] w fun e w' => e = .returned (.tuple #[.int .u32 tt, v]) ∧ PAt X pp B w' q { r with pw := isWS (byte X.t p), pc := false } toks fns ∧ Adv B w w' := by
  obtain ⟨t1, t2, hsp⟩ := hx.split
  have h0 := h.f0
  have h9 := h.f9
  have h11 := h.f11
  have hff := h.ff
  obtain ⟨hP1, hA1⟩ := h.set 9 (.bool false) { r with pw := false } rfl h.buf h.stk
  obtain ⟨hP2, hA2⟩ := hP1.set 11 (.bool false) { r with pw := false, pc := false } rfl hP1.buf hP1.stk
  have hA0 := hA1.trans hA2
  have k0 := hP2.f0
  clear hP1 hA1 hA2 hx
  obtain ⟨ka, va, qa, ga, hfst⟩ : ∃ (ka : Int) (va : Value) (qa : Nat) (ga : Nat), Nx X p ka va qa ∧ ((ga = 0 ∧ ka = tt ∧ va = v ∧ qa = q ∧ isWS (byte X.t p) = false) ∨ (ga = 1 ∧ ka = 20 ∧ isWS (byte X.t p) = true ∧ Nx X qa tt v q)) := by
    rcases hsp with ⟨a, b⟩ | ⟨a, b⟩
    · exact ⟨_, _, _, 0, b, .inl ⟨rfl, rfl, rfl, rfl, a⟩⟩
    · exact ⟨_, _, _, 1, .tk _ _ (.ws a), .inr ⟨rfl, rfl, a, b⟩⟩
  obtain ⟨hn1, hfst⟩ := hfst
  have HN := Lib.hid hn1
  have HF := Lib.hid hfst
  clear hn1 hfst hsp
  go_enter Tryz.func44, Tryz.ntmps44
  go_wp2_with (first | (go_at_call 63; ((with_reducible refine (nxt_any X pp B _ _ _ _ _ hP2 _ _ _ HN.out).mono ?_); (rintro e w' ⟨rfl, hP, hA⟩); have hAd := hA0.trans hA; clear hA0 hA hP2 k0)))
  go_loopg [6, 7] ga (fun k a6 a7 wr => (k = 0 ∧ a6 = .int .u32 tt ∧ a7 = v ∧ PAt X pp B wr q { r with pw := isWS (byte X.t p), pc := false } toks fns ∧ Adv B w wr) ∨
    (k = 1 ∧ a6 = .int .u32 20 ∧ isWS (byte X.t p) = true ∧ PAt X pp B wr qa { r with pw := false, pc := false } toks fns ∧ Adv B w wr ∧ Nx X qa tt v q))
  case atStart =>
    rcases HF.out with ⟨rfl, rfl, rfl, rfl, e⟩ | ⟨rfl, rfl, e, b⟩
    · exact .inl ⟨rfl, rfl, rfl, by rw [e]; exact hP, hAd⟩
    · exact .inr ⟨rfl, rfl, e, hP, hAd, b⟩
  case round =>
    rcases hrel with ⟨rfl, rfl, rfl, hP, hAd⟩ | ⟨rfl, rfl, e, hP, hAd, hb⟩
    · have k8 := hP.f8
      go_wp2
      go_ret2
      exact ⟨rfl, hP, hAd⟩
    · have HB := Lib.hid hb
      have k0 := hP.f0
      have k8 := hP.f8
      have k9 := hP.f9
      have kff := hP.ff
      obtain ⟨hP1, hA1⟩ := hP.set 9 (.bool true) { r with pw := true, pc := false } rfl hP.buf hP.stk
      have m0 := hP1.f0
      have hA2 := hAd.trans hA1
      clear hb hA1
      go_wp2_with (first | (go_at_call 63; ((with_reducible refine (nxt_any X pp B _ _ _ _ _ hP1 _ _ _ HB.out).mono ?_); (rintro e w' ⟨rfl, hP3, hA⟩); have hAe := hA2.trans hA; clear hA2 hA hP1 m0)))
      go_roundg 0
      case measure => omega
      case rel => exact .inl ⟨rfl, rfl, rfl, by rw [e]; exact hP3, hAe⟩
end
end Go.Proofs.YtlglijnaeaonpaaGreatDoor.Css
/- Copies of rows of bytes; small letters. -/
namespace Go.Proofs.YtlglijnaeaonpaaGreatDoor.Css
open Go.RowKit

/-- A slice's value that holds these bytes. -/
def Slb (w : World) (v : Value) (l : List UInt8) : Prop := ∃ a cap, v = .slice a l.length cap ∧ (0 < l.length → ∃ b off, a = some ⟨b, off, none⟩ ∧ Lies w b off l)
/-- A new row that holds these bytes and no more. -/
def CopyRow (w : World) (l : List UInt8) (e : Ending) (w' : World) : Prop :=
  e = .returned (.slice (some ⟨w.heap.size, 0, none⟩) l.length l.length) ∧ w'.heap[w.heap.size]? = some (.cells (cellsOf l).toArray 5 (0, 0)) ∧ Below w.heap.size w w'

set_option maxRecDepth 100000 in
set_option maxHeartbeats 1000000 in
theorem copy_any (w : World) (v : Value) (l : List UInt8) (h : Slb w v l) (hl : l.length ≤ 281474976710656) : Calls Tryz.prog 42 #[v] w (CopyRow w l) := by
  obtain ⟨i0, hi, hz0, hz1, hz2⟩ := info_parts info5
  obtain ⟨a, cap, rfl, hcs⟩ := h
  have hsz : (Tryz.prog.info? 5).map (·.size) = some 1 := by rw [hi]; exact congrArg some hz1
  have hmk : ∀ w, (Instr.makeSlice 24 (.int .i64 (l.length : Int)) (.int .i64 (l.length : Int))).run Tryz.prog w = .ok (.slice (some ⟨w.heap.size, 0, none⟩) l.length l.length) (w.alloc (.cells (madeCells #[.int .u8 0] l.length) 5)) := fun w => by
    have := run_make (P := Tryz.prog) w 24 5 i0 (.int .u8 0) Tryz.underlying24 hi hz0 .i64 .i64 l.length l.length (by omega) (Int.le_refl _) (by rw [hz2]; omega) (by omega)
    rw [Int.toNat_natCast, hz1, Nat.mul_one] at this
    exact this
  have HC := Lib.hid hcs
  clear hcs
  go_enter Tryz.func42, Tryz.ntmps42
  go_wp2_with (with_reducible refine wpList_copy_splice rfl (.tmp 6) (.tmp 7) 24 24 rfl 5 Tryz.underlying24 hsz _ _ l.length l.length l.length cap rfl rfl w.heap.size 0 (madeCells #[.int .u8 0] l.length).toList 5 ?d1 (cellsOf l) ?d2 ?d3 ?d4 (cellsOf_one l) w.heap.size w ?d5 (Nat.le_refl _) ?_)
  case d1 => rw [Array.toArray_toList]; exact alloc_new _ _
  case d2 => rw [cellsOf_length]; exact (Nat.min_self _).symm
  case d3 =>
    intro h0
    rw [cellsOf_length] at h0
    obtain ⟨b, off, rfl, hL⟩ := HC.out h0
    exact ⟨⟨b, off, none⟩, rfl, (hL.alloc _).cells⟩
  case d4 =>
    have e1 := cellsOf_length l
    have e2 : (madeCells #[.int .u8 0] l.length).toList.length = l.length := by rw [Array.length_toList, size_madeCells]
    omega
  case d5 => exact (Below.refl _ _).alloc (Nat.le_refl _) _
  intro w' hg hb
  go_wp2
  go_ret
  refine ⟨rfl, ?_, hb⟩
  have := hg.out
  have e : splice (madeCells #[.int .u8 0] l.length).toList 0 (cellsOf l) = cellsOf l := by
    unfold splice
    rw [List.drop_eq_nil_of_le (by rw [cellsOf_length, Array.length_toList, size_madeCells]; omega)]
    simp
  rw [e] at this
  exact this

theorem copy20 (w : World) (v : Value) (l : List UInt8) (h : Slb w v l) (hl : l.length ≤ 281474976710656) : Calls Tryz.prog 20 #[v] w (CopyRow w l) := by
  have hc := copy_any w v l h hl
  obtain ⟨a, cap, rfl, hcs⟩ := h
  clear hcs
  go_enter Tryz.func20, Tryz.ntmps20
  go_wp2_with (go_at_call 42; ((with_reducible refine hc.mono ?_); (rintro e w' ⟨rfl, hr, hb⟩)))
  go_ret
  exact ⟨rfl, hr, hb⟩

/-- No capital letters. -/
def NoCap (l : List UInt8) : Prop := ∀ i, byte l i < 65 ∨ 90 < byte l i
set_option maxRecDepth 100000 in
set_option maxHeartbeats 1000000 in
theorem lower_any (w : World) (b off cap : Nat) (l : List UInt8) (h : Lies w b off l) (hn : NoCap l) (hl : l.length ≤ 281474976710656) :
    Calls Tryz.prog 71 #[.slice (some ⟨b, off, none⟩) l.length cap] w fun e w' => e = .returned (.slice (some ⟨b, off, none⟩) l.length cap) ∧ w = w' := by
  have H := Lib.hid h
  have HN := Lib.hid hn
  clear h hn
  go_enter Tryz.func71, Tryz.ntmps71
  go_wp2
  go_loopg [3, 4, 7] l.length (fun k _ _ i wr => ∃ q, q ≤ l.length ∧ k = l.length - q ∧ i = .int .i64 q ∧ wr = w)
  case atStart => exact ⟨0, Nat.zero_le _, rfl, rfl, rfl⟩
  case round =>
    obtain ⟨q, hq, hk, rfl, rfl⟩ := hrel
    by_cases hlt : q < l.length
    · have c1 := H.out q hlt
      have lo := byte_lo l q
      have hi := byte_hi l q
      obtain ⟨d, hd⟩ : ∃ d, d = byte l q := ⟨_, rfl⟩
      have hcap := HN.out q
      rw [← hd] at c1 lo hi hcap
      clear hd
      have s1 : IntKind.i64.wrap ((q : Int) + 1) = ((q + 1 : Nat) : Int) := by rw [IntWalk.i64_in _ (by omega)]; omega
      have hd1 : decide ((q : Int) < (l.length : Int)) = true := decide_eq_true (by omega)
      rcases hcap with hc | hc
      · have e1 : decide (65 ≤ d) = false := decide_eq_false (by omega)
        go_wp2
        go_roundg (l.length - (q + 1))
        case measure => omega
        case rel => exact ⟨q + 1, by omega, rfl, rfl, rfl⟩
      · have e1 : decide (65 ≤ d) = true := decide_eq_true (by omega)
        have e2 : decide (d ≤ 90) = false := decide_eq_false (by omega)
        go_wp2
        go_roundg (l.length - (q + 1))
        case measure => omega
        case rel => exact ⟨q + 1, by omega, rfl, rfl, rfl⟩
    · have hd1 : decide ((q : Int) < (l.length : Int)) = false := decide_eq_false (by omega)
      go_wp2
      go_ret
      exact ⟨rfl, rfl⟩

theorem offset_any (X : Lx) (w0 w : World) (p s : Nat) (h : X.At w0 w p s) : Calls Tryz.prog 59 #[.pointer (some ⟨X.g, 0, none⟩)] w fun e w' => e = .returned (.int .i64 p) ∧ w = w' := by
  have h1 := h.i1
  go_enter Tryz.func59, Tryz.ntmps59
  go_wp2
  go_ret
  exact ⟨rfl, rfl⟩
end Go.Proofs.YtlglijnaeaonpaaGreatDoor.Css
