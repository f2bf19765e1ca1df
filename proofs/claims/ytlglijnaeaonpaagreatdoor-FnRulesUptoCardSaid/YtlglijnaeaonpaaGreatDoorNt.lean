/- The input of the lexer is made. -/
import Derived.Deep.RegionWith
import Derived.LaidEql
import Derived.Test.YtlglijnaeaonpaaGreatDoorNs
import Derived.Test.YtlglijnaeaonpaaGreatDoorMi
set_option linter.all false
/- The input of the lexer is made. -/
namespace Go.Proofs.YtlglijnaeaonpaaGreatDoor.Css
open Go.RowKit

/-- An input that has been made of a text. -/
def InP (B : Nat) (w : World) (l : List UInt8) (e : Ending) (w' : World) : Prop :=
  ∃ (g b off cap : Nat) (rv : Value), e = .returned (.pointer (some ⟨g, 0, none⟩)) ∧ w'.heap[g]? = some (.cells #[.slice (some ⟨b, off, none⟩) (l.length + 1) cap, .int .i64 0, .int .i64 0, .nilIface, rv] 84 (0, 0)) ∧
    (∃ (cs : Array Value) (f : Nat × Nat), w'.heap[b]? = some (Obj.cells cs 5 f) ∧ ∀ i, i ≤ l.length → cs[off + i]? = some (.int .u8 (byte l i))) ∧ l.length + 1 ≤ cap ∧ w.heap.size ≤ g ∧ B ≤ b ∧ Below B w w'
theorem null_any (w : World) : Calls Tryz.prog 40 #[] w fun e w' => e = .returned (.slice (some ⟨w.heap.size, 0, none⟩) 1 1) ∧ w' = w.alloc (.cells #[.int .u8 0] 5) := by
  go_enter Tryz.func40, Tryz.ntmps40
  go_wp2
  go_ret
  exact ⟨rfl, rfl⟩
theorem byte_snoc0 (l : List UInt8) (i : Nat) (hi : i ≤ l.length) : (cellsOf (l ++ [0]))[i]? = some (.int .u8 (byte l i)) := by
  rw [cellsOf_get (l ++ [0]) i (by rw [List.length_append, List.length_singleton]; omega)]
  congr 2
  unfold byte
  rcases Nat.lt_or_ge i l.length with h | h
  · simp [List.getD_eq_getElem?_getD, List.getElem?_append_left h]
  · obtain rfl : i = l.length := by omega
    simp [List.getD_eq_getElem?_getD]

theorem Txt.ofRow {w : World} {b0 B : Nat} {l : List UInt8} (hr : w.heap[b0]? = some (.cells (cellsOf l).toArray 5 (0, 0))) (hB : B ≤ b0) (hl : l.length ≤ maxLen) : Txt B w w (.slice (some ⟨b0, 0, none⟩) l.length l.length) l :=
  ⟨⟨by rw [cellsOf_length, Nat.mul_one], .inr ⟨b0, l.length, _, rfl, hB, hr, Nat.le_refl _, hl, by simp [cellsOf_length], by rw [Nat.mul_one]; exact List.take_of_length_le (Nat.le_of_eq (cellsOf_length l))⟩⟩, Below.refl _ _, Nat.le_trans hB (Nat.le_of_lt (Array.getElem?_eq_some_iff.1 hr).1)⟩
/-- A text's bytes lie in its row. -/
theorem Txt.row {B : Nat} {w0 w : World} {v : Value} {l : List UInt8} (h : Txt B w0 w v l) (h0 : 0 < l.length) : ∃ g cap cur, v = .slice (some ⟨g, 0, none⟩) l.length cap ∧ B ≤ g ∧ w.heap[g]? = some (Obj.cells cur 5 (0, 0)) ∧ l.length ≤ cap ∧ ∀ i, i < l.length → cur[i]? = (cellsOf l)[i]? := by
  rcases h.own.2 with ⟨h1, h2⟩ | ⟨g, cap, cur, h1, hB, hg, hn, hm, hs, hc⟩
  · omega
  · refine ⟨g, cap, cur, h1, hB, hg, hn, fun i hi => ?_⟩
    rw [Nat.mul_one] at hc
    rw [← hc, List.getElem?_take_of_lt hi, Array.getElem?_toList]

set_option maxRecDepth 100000 in
set_option maxHeartbeats 2000000 in
theorem newInput_any (B : Nat) (w : World) (b0 : Nat) (l : List UInt8) (hr : w.heap[b0]? = some (.cells (cellsOf l).toArray 5 (0, 0))) (hB : B ≤ b0) (hl : l.length + 1 ≤ 140737488351232) :
    Calls Tryz.prog 19 #[.slice (some ⟨b0, 0, none⟩) l.length l.length] w (InP B w l) := by
  have hBw : B ≤ w.heap.size := Nat.le_trans hB (Nat.le_of_lt (Array.getElem?_eq_some_iff.1 hr).1)
  rcases Nat.eq_zero_or_pos l.length with h0 | h0
  · obtain rfl := List.eq_nil_of_length_eq_zero h0
    clear hr hl h0
    simp only [List.length_nil]
    go_enter Tryz.func19, Tryz.ntmps19
    go_wp2_with (go_at_call 40; ((with_reducible refine (null_any _).mono ?_); rintro e w' ⟨rfl, rfl⟩))
    go_ret
    refine ⟨w.heap.size + 1, w.heap.size + 1 + 1 + 1, 0, 1, .nilFunc, rfl, ?_, ⟨#[.int .u8 0], (0, 0), ?_, fun i hi => ?_⟩, Nat.le_refl _, by omega, by omega, ((((Below.refl B w).alloc hBw _).alloc (by simp; omega) _).alloc (by simp; omega) _).alloc (by simp; omega) _⟩
    · rw [Below.heap_alloc _ _ _ (by simp), Below.heap_alloc _ _ _ (by simp)]
      have := alloc_new (w.alloc (.cells #[.slice (some ⟨b0, 0, none⟩) 0 0] 24)) (.cells #[.slice (some ⟨w.heap.size + 1 + 1 + 1, 0, none⟩) 1 1, .int .i64 0, .int .i64 0, .nilIface, .nilFunc] 84)
      rwa [show (w.alloc (.cells #[.slice (some ⟨b0, 0, none⟩) 0 0] 24)).heap.size = w.heap.size + 1 from by simp] at this
    · have := alloc_new (((w.alloc (.cells #[.slice (some ⟨b0, 0, none⟩) 0 0] 24)).alloc (.cells #[.slice (some ⟨w.heap.size + 1 + 1 + 1, 0, none⟩) 1 1, .int .i64 0, .int .i64 0, .nilIface, .nilFunc] 84)).alloc (.cells #[.int .i64 0] 3)) (.cells #[.int .u8 0] 5)
      simpa using this
    · have hi' : i ≤ 0 := hi
      obtain rfl : i = 0 := by omega
      rfl
  · have h1 : ((l.length : Int) == 0) = false := by rw [beq_eq_false_iff_ne]; omega
    have hT := Txt.ofRow hr hB (by unfold maxLen; omega)
    clear hr
    go_enter Tryz.func19, Tryz.ntmps19
    go_upto_region 11 with fail
    have hT3 := ((hT.alloc (.cells #[.slice (some ⟨b0, 0, none⟩) l.length l.length] 24)).alloc (.cells #[.slice (some ⟨b0, 0, none⟩) l.length l.length, .int .i64 0, .int .i64 0, .nilIface, .nilFunc] 84)).alloc (.cells #[.int .i64 l.length] 3)
    obtain ⟨w3, hw3⟩ : ∃ w3, w3 = ((w.alloc (.cells #[.slice (some ⟨b0, 0, none⟩) l.length l.length] 24)).alloc (.cells #[.slice (some ⟨b0, 0, none⟩) l.length l.length, .int .i64 0, .int .i64 0, .nilIface, .nilFunc] 84)).alloc (.cells #[.int .i64 l.length] 3) := ⟨_, rfl⟩
    have hg3 : w3.heap[w.heap.size + 1]? = some (.cells #[.slice (some ⟨b0, 0, none⟩) l.length l.length, .int .i64 0, .int .i64 0, .nilIface, .nilFunc] 84 (0, 0)) := by
      rw [hw3, Below.heap_alloc _ _ _ (by simp)]
      have := alloc_new (w.alloc (.cells #[.slice (some ⟨b0, 0, none⟩) l.length l.length] 24)) (.cells #[.slice (some ⟨b0, 0, none⟩) l.length l.length, .int .i64 0, .int .i64 0, .nilIface, .nilFunc] 84)
      rwa [show (w.alloc (.cells #[.slice (some ⟨b0, 0, none⟩) l.length l.length] 24)).heap.size = w.heap.size + 1 from by simp] at this
    have c1 : w3.cell? ⟨w.heap.size, 0, none⟩ = some (.slice (some ⟨b0, 0, none⟩) l.length l.length) := by
      rw [hw3, cell_at (b := w.heap.size) (cs := #[.slice (some ⟨b0, 0, none⟩) l.length l.length]) (t := 24) (f := (0, 0)) (by
        rw [Below.heap_alloc _ _ _ (by simp; omega), Below.heap_alloc _ _ _ (by simp)]; exact alloc_new _ _)]; rfl
    rw [← hw3] at hT3 ⊢
    clear hw3 hT
    have HG := Lib.hid hg3
    clear hg3
    go_wp2_with (at_builtin; refine app_slice rfl (.tmp 41) (.tmp 42) rfl rfl (hT3.alloc _) rfl rfl (new1 _ 0 _ rfl) (by simp only [List.length_cons, List.length_nil]; omega) ?_; intro v' w5 hT5 hot5; obtain ⟨va5, vn5, vc5, rfl⟩ := hT5.shape; have hg5 := hot5 _ _ _ _ (Oth.alloc _ _ _ _ _ _ HG.out (by decide)) (by decide); have cg5 : w5.cell? ⟨w.heap.size + 1, 0, none⟩ = some (.slice (some ⟨b0, 0, none⟩) l.length l.length) := (by rw [cell_at hg5]; rfl); have fg5 := frozen_at hg5 0)
    go_ret
    have hT6 := hT5.set hg5 (by decide) (by omega) 0 (.slice va5 vn5 vc5)
    obtain ⟨gg, cap, cur, hv, hBg, hgr, hcap, hcur⟩ := hT6.row (by simp)
    rw [List.length_append, List.length_singleton] at hv hcap
    refine ⟨w.heap.size + 1, gg, 0, cap, .nilFunc, rfl, ?_, ⟨cur, (0, 0), hgr, fun i hi => ?_⟩, hcap, by omega, hBg, hT6.bel⟩
    · rw [heap_set hg5, ← hv]; rfl
    · rw [Nat.zero_add, hcur i (by rw [List.length_append, List.length_singleton]; omega)]
      exact byte_snoc0 l i hi
end Go.Proofs.YtlglijnaeaonpaaGreatDoor.Css
/- The parser is made. -/
namespace Go.Proofs.YtlglijnaeaonpaaGreatDoor.Css
open Go.RowKit

theorem newLexer_any (w : World) (g : Nat) : Calls Tryz.prog 37 #[.pointer (some ⟨g, 0, none⟩)] w fun e w' => e = .returned (.pointer (some ⟨w.heap.size, 0, none⟩)) ∧ w' = w.alloc (.cells #[.pointer (some ⟨g, 0, none⟩)] 93) := by
  go_enter Tryz.func37, Tryz.ntmps37
  go_wp2
  go_ret
  exact ⟨rfl, rfl⟩

/-- A new parser for the declarations of a style. -/
def r0 (st : Value) : PR := ⟨st, 0, .slice none 0 0, 0, .slice none 0 0, 0, false, false, false, false⟩
def NewPar (rf : Value → PR) (fns : List Nat) (B : Nat) (eof : Addr) (l : List UInt8) (w : World) (e : Ending) (w' : World) : Prop :=
  ∃ (X : Lx) (pp : Nat) (st : Value), e = .returned (.pointer (some ⟨pp, 0, none⟩)) ∧ X.t = l ∧ X.eof = eof ∧ PAt X pp B w' 0 (rf st) [] fns ∧ Below B w w'
/-- A new parser's fields and its first state. -/
def NewParAny (inl : Bool) (rf : Value → PR) (fns : List Nat) : Prop :=
  ∀ (B : Nat) (w : World) (g b off cap : Nat) (rv : Value) (eof : Addr) (l : List UInt8), 0 < B → B ≤ g → B ≤ b → B ≤ w.heap.size → l.length + 1 ≤ 140737488351232 → l.length + 1 ≤ cap → NoBs l →
    w.heap[g]? = some (.cells #[.slice (some ⟨b, off, none⟩) (l.length + 1) cap, .int .i64 0, .int .i64 0, .nilIface, rv] 84 (0, 0)) →
    (∃ (cs : Array Value) (f : Nat × Nat), w.heap[b]? = some (Obj.cells cs 5 f) ∧ ∀ i, i ≤ l.length → cs[off + i]? = some (.int .u8 (byte l i))) →
    w.cell? ⟨0, 0, none⟩ = some (.iface 198 (.pointer (some eof))) →
    Calls Tryz.prog 18 #[.pointer (some ⟨g, 0, none⟩), .bool inl] w (NewPar rf fns B eof l w)
theorem made4 (w : World) : (Instr.makeSlice 78 (.int .i64 0) (.int .i64 4)).run Tryz.prog w = .ok (.slice (some ⟨w.heap.size, 0, none⟩) 0 4) (w.alloc (.cells #[.nilFunc, .nilFunc, .nilFunc, .nilFunc] 88)) := by
  obtain ⟨i0, hi, hz0, hz1, hz2⟩ := info_parts info88
  have := run_make (P := Tryz.prog) w 78 88 i0 .nilFunc Tryz.underlying78 hi hz0 .i64 .i64 0 4 (by omega) (by omega) (by rw [hz2]; omega) (by omega)
  rw [hz1, show madeCells Value.nilFunc.cells (Int.toNat 4 * 1) = #[.nilFunc, .nilFunc, .nilFunc, .nilFunc] from by kernel_rfl] at this
  exact this

set_option maxRecDepth 100000 in
set_option maxHeartbeats 2000000 in
theorem newParser_any : NewParAny true r0 [38] := by
  intro B w g b off cap rv eof l hB0 hBg hBb hBw hl hc hn hin htx hio
  obtain ⟨i0, hi, hz0, hz1, hz2⟩ := info_parts info88
  have km := made4
  have HIN := Lib.hid (show _ ∧ _ ∧ _ from ⟨hin, htx, hio⟩)
  clear hin htx hio
  go_enter Tryz.func18, Tryz.ntmps18
  go_upto_region 4 with (go_at_call 37; ((with_reducible refine (newLexer_any _ _).mono ?_); rintro e w' ⟨rfl, rfl⟩))
  have hbel3 : Below B w (((w.alloc (.cells #[.pointer (some ⟨g, 0, none⟩)] 93)).alloc (.cells #[.nilFunc, .nilFunc, .nilFunc, .nilFunc] 88)).alloc (.cells #[.pointer (some ⟨w.heap.size, 0, none⟩), .slice (some ⟨w.heap.size + 1, 0, none⟩) 0 4, .string ⟨#[]⟩, .int .i64 0, .slice none 0 0, .int .i64 0, .slice none 0 0, .int .u32 0, .bool false, .bool false, .bool false, .bool false, .bool false] 80)) :=
    (((Below.refl B w).alloc hBw _).alloc (by simp; omega) _).alloc (by simp; omega) _
  have hbw3 : Below w.heap.size w (((w.alloc (.cells #[.pointer (some ⟨g, 0, none⟩)] 93)).alloc (.cells #[.nilFunc, .nilFunc, .nilFunc, .nilFunc] 88)).alloc (.cells #[.pointer (some ⟨w.heap.size, 0, none⟩), .slice (some ⟨w.heap.size + 1, 0, none⟩) 0 4, .string ⟨#[]⟩, .int .i64 0, .slice none 0 0, .int .i64 0, .slice none 0 0, .int .u32 0, .bool false, .bool false, .bool false, .bool false, .bool false] 80)) :=
    (((Below.refl _ w).alloc (Nat.le_refl _) _).alloc (by simp) _).alloc (by simp; omega) _
  obtain ⟨w3, hw3⟩ : ∃ w3, w3 = (((w.alloc (.cells #[.pointer (some ⟨g, 0, none⟩)] 93)).alloc (.cells #[.nilFunc, .nilFunc, .nilFunc, .nilFunc] 88)).alloc (.cells #[.pointer (some ⟨w.heap.size, 0, none⟩), .slice (some ⟨w.heap.size + 1, 0, none⟩) 0 4, .string ⟨#[]⟩, .int .i64 0, .slice none 0 0, .int .i64 0, .slice none 0 0, .int .u32 0, .bool false, .bool false, .bool false, .bool false, .bool false] 80)) := ⟨_, rfl⟩
  have hsz3 : w3.heap.size = w.heap.size + 3 := by rw [hw3]; simp
  have hpp3 : w3.heap[w.heap.size + 1 + 1]? = some (.cells #[.pointer (some ⟨w.heap.size, 0, none⟩), .slice (some ⟨w.heap.size + 1, 0, none⟩) 0 4, .string ⟨#[]⟩, .int .i64 0, .slice none 0 0, .int .i64 0, .slice none 0 0, .int .u32 0, .bool false, .bool false, .bool false, .bool false, .bool false] 80 (0, 0)) := by
    rw [hw3]
    have := alloc_new ((w.alloc (.cells #[.pointer (some ⟨g, 0, none⟩)] 93)).alloc (.cells #[.nilFunc, .nilFunc, .nilFunc, .nilFunc] 88)) (.cells #[.pointer (some ⟨w.heap.size, 0, none⟩), .slice (some ⟨w.heap.size + 1, 0, none⟩) 0 4, .string ⟨#[]⟩, .int .i64 0, .slice none 0 0, .int .i64 0, .slice none 0 0, .int .u32 0, .bool false, .bool false, .bool false, .bool false, .bool false] 80)
    simpa using this
  have hst3 : w3.heap[w.heap.size + 1]? = some (.cells #[.nilFunc, .nilFunc, .nilFunc, .nilFunc] 88 (0, 0)) := by
    rw [hw3, Below.heap_alloc _ _ _ (by simp)]
    have := alloc_new (w.alloc (.cells #[.pointer (some ⟨g, 0, none⟩)] 93)) (.cells #[.nilFunc, .nilFunc, .nilFunc, .nilFunc] 88)
    simpa using this
  have hlx3 : w3.heap[w.heap.size]? = some (.cells #[.pointer (some ⟨g, 0, none⟩)] 93 (0, 0)) := by
    rw [hw3, Below.heap_alloc _ _ _ (by simp; omega), Below.heap_alloc _ _ _ (by simp)]
    exact alloc_new _ _
  rw [← hw3] at hbel3 hbw3 ⊢
  clear hw3
  have hown3 : Own w3 B 88 1 (.slice (some ⟨w.heap.size + 1, 0, none⟩) 0 4) 0 [] := ⟨rfl, .inr ⟨_, 0, 4, _, rfl, by omega, hst3, by simp, fun j u hj => by simp at hj, by omega, by unfold maxLen; omega⟩⟩
  have c1 : w3.cell? ⟨w.heap.size + 1 + 1, 1, none⟩ = some (.slice (some ⟨w.heap.size + 1, 0, none⟩) 0 4) := by rw [cell_at hpp3]; rfl
  have HH := Lib.hid (show _ ∧ _ ∧ _ ∧ _ ∧ _ from ⟨hpp3, hst3, hlx3, hbel3, hbw3⟩)
  have HO := Lib.hid hown3
  have HSZ := Lib.hid hsz3
  clear hpp3 hst3 hlx3 hbel3 hbw3 hown3 hsz3
  go_wp2_with (at_builtin; refine wpList_append_Own _ rfl (.tmp 18) (.tmp 19) 78 rfl B 88 i0 .nilFunc 1 8 Tryz.underlying78 hi hz0 hz1 hz2 rfl (by decide) _ 0 [] rfl (HO.out.keep fun k hk => (Below.heap_alloc _ _ _ (HO.out.lt k hk).2.1)) ⟨w3.heap.size, 0, none⟩ 1 1 [fnVal 38] rfl rfl ?q1 ?q2 (by unfold maxLen; omega) (by omega) ?q3 ?q4)
  case q1 =>
    intro j u hj
    have hj1 : j < 1 := (List.getElem?_eq_some_iff.1 hj).1
    obtain rfl : j = 0 := by omega
    cases hj
    exact new_cell _ _ _
  case q2 => intro u hu; rw [List.mem_singleton.1 hu]; rfl
  case q3 => have := HSZ.out; simp; omega
  case q4 =>
  intro v' w5 hown5 hgr
  have hk : ∀ (k : Nat) (cs : Array Value) (t : TypeId) (f : Nat × Nat), w3.heap[k]? = some (Obj.cells cs t f) → t ≠ 88 → w5.heap[k]? = some (Obj.cells cs t f) := by
    intro k cs t f hk ht
    have hlt := (Array.getElem?_eq_some_iff.1 hk).1
    rw [hgr.block k (by simp; omega) (fun e => ?_), Below.heap_alloc _ _ _ hlt]
    · exact hk
    · obtain ⟨_, _, cur, hc'⟩ := HO.out.lt k e.symm
      exact ht (ty_eq hk hc')
  obtain ⟨hpp3, hst3, hlx3, hbel3, hbw3⟩ := HH.out
  have hpp5 := hk _ _ _ _ hpp3 (by decide)
  have hlx5 := hk _ _ _ _ hlx3 (by decide)
  obtain ⟨hin, ⟨cs, f, htx, htx2⟩, hio⟩ := HIN.out
  have hlt : ∀ {k : Nat} {o : Obj}, w.heap[k]? = some o → k < w.heap.size := fun h => (Array.getElem?_eq_some_iff.1 h).1
  have hin5 := hk _ _ _ _ (by rw [hbw3.block _ (hlt hin)]; exact hin) (by decide)
  have htx5 := hk _ _ _ _ (by rw [hbw3.block _ (hlt htx)]; exact htx) (by decide)
  have hb5 : Below B w w5 := hbel3.trans ((((Below.refl B w3).alloc (by have := HSZ.out; omega) _)).grown hgr (by have := HSZ.out; simp; omega) (fun k hk' => (HO.out.lt k hk').1))
  have hio5 : w5.cell? ⟨0, 0, none⟩ = some (.iface 198 (.pointer (some eof))) := (hb5.cell (p := ⟨0, 0, none⟩) hB0).trans hio
  have hshape : ∃ a n c, v' = .slice a n c := by
    rcases hown5.2 with ⟨h1, h2⟩ | ⟨g, off, cap, cur, h1, _⟩
    · exact ⟨_, _, _, h1⟩
    · exact ⟨_, _, _, h1⟩
  obtain ⟨sa, sn, sc, rfl⟩ := hshape
  have c5 : w5.cell? ⟨w.heap.size + 1 + 1, 1, none⟩ = some (.slice (some ⟨w.heap.size + 1, 0, none⟩) 0 4) := by rw [cell_at hpp5]; rfl
  have f5 := frozen_at hpp5 1
  have hs5 := hb5.size
  have HALL := Lib.hid (show _ ∧ _ ∧ _ ∧ _ ∧ _ ∧ _ ∧ _ from ⟨hpp5, hlx5, hin5, htx5, hio5, hb5, hown5⟩)
  have HT2 := Lib.hid htx2
  clear hpp5 hlx5 hin5 htx5 hio5 hb5 hown5 hgr hk hpp3 hst3 hlx3 hbel3 hbw3 hin htx htx2 hio hlt c1 km
  go_wp2
  go_ret
  obtain ⟨hpp5, hlx5, hin5, htx5, hio5, hb5, hown5⟩ := HALL.out
  have hgb : b ≠ g := by rintro rfl; exact absurd (ty_eq hin5 htx5) (by decide)
  have hlg : w.heap.size ≠ g := by intro e; rw [e] at hlx5; exact absurd (ty_eq hin5 hlx5) (by decide)
  have hpg : w.heap.size + 1 + 1 ≠ g := by intro e; rw [e] at hpp5; exact absurd (ty_eq hin5 hpp5) (by decide)
  have hpb : w.heap.size + 1 + 1 ≠ b := by intro e; rw [e] at hpp5; exact absurd (ty_eq htx5 hpp5) (by decide)
  have ho : ∀ k, k ≠ w.heap.size + 1 + 1 → (w5.setCell ⟨w.heap.size + 1 + 1, 1, none⟩ (.slice sa sn sc)).heap[k]? = w5.heap[k]? := fun k hk => Below.heap_setCell _ _ _ _ hk
  have htx6 : (w5.setCell ⟨w.heap.size + 1 + 1, 1, none⟩ (.slice sa sn sc)).heap[b]? = some (Obj.cells cs 5 f) := (ho b (Ne.symm hpb)).trans htx5
  have hb6 : Below B w (w5.setCell ⟨w.heap.size + 1 + 1, 1, none⟩ (.slice sa sn sc)) := hb5.setCell (by show B ≤ w.heap.size + 1 + 1; omega) _
  refine ⟨⟨w.heap.size, g, b, off, cap, rv, eof, l⟩, w.heap.size + 1 + 1, .slice sa sn sc, rfl, rfl, rfl, ⟨⟨?_, ⟨cs, f, htx6⟩, ?_, hBw, hBg, hBb, by omega, hB0, hn, ?_⟩, Own.nil _ _ _ _, fun k hk => (by cases hk)⟩, hb6⟩
  · exact {
      lex := (ho w.heap.size (by omega)).trans hlx5
      inp := (ho _ (Ne.symm hpg)).trans hin5
      txt := fun i hi => by rw [cell_at htx6]; exact HT2.out i hi
      io := (hb6.cell (p := ⟨0, 0, none⟩) hB0).trans (HIN.out.2.2)
      nb := hgb
      nl := hlg
      n0 := by show 0 ≠ g; omega
      hg := (Array.getElem?_eq_some_iff.1 ((ho _ (Ne.symm hpg)).trans hin5)).1
      pl := Nat.zero_le _
      sp := Nat.le_refl _
      cp := hc
      big := hl
      keep := Keep.refl _ _ }
  · rw [heap_set hpp5]; rfl
  · refine hown5.keep fun k hk => ho k ?_
    obtain ⟨_, _, cur, hc'⟩ := hown5.lt k hk
    rintro rfl
    exact absurd (ty_eq hpp5 hc') (by decide)
end Go.Proofs.YtlglijnaeaonpaaGreatDoor.Css
/- The names of kinds of pieces. -/
namespace Go.Proofs.YtlglijnaeaonpaaGreatDoor.Css
open Go.RowKit

/-- The names of the parser's pieces. -/
def gname : Int → ByteArray
  | 2 => ⟨#[97, 116]⟩
  | 3 => ⟨#[98, 101, 103, 105, 110, 32, 97, 116]⟩
  | 4 => ⟨#[101, 110, 100, 32, 97, 116]⟩
  | 6 => ⟨#[98, 101, 103, 105, 110]⟩
  | 7 => ⟨#[101, 110, 100]⟩
  | _ => dkind
set_option maxRecDepth 100000 in
set_option maxHeartbeats 2000000 in
theorem ruleName_any (w : World) (gt : Int) (h : gt = 2 ∨ gt = 3 ∨ gt = 4 ∨ gt = 6 ∨ gt = 7 ∨ gt = 8) : Calls Tryz.prog 22 #[.int .u32 gt] w fun e w' => e = .returned (.string (gname gt)) ∧ Below w.heap.size w w' := by
  have hb := (Below.refl w.heap.size w).alloc (Nat.le_refl _)
  rcases h with rfl | rfl | rfl | rfl | rfl | rfl
  all_goals
    go_enter Tryz.func22, Tryz.ntmps22
    go_wp2
    go_ret
    exact ⟨rfl, hb _⟩
end Go.Proofs.YtlglijnaeaonpaaGreatDoor.Css
/- The parser's parts, one by one: what is left of memory. -/
namespace Go.Proofs.YtlglijnaeaonpaaGreatDoor.Css
open Go.RowKit

/-- What is no row of pieces stays: so does the parser. -/
theorem PAt.other {X : Lx} {pp B : Nat} {w w' : World} {p : Nat} {r : PR} {toks : List Tok} {fns : List Nat} (h : PAt X pp B w p r toks fns) (ho : OthP B w w') : PAt X pp B w' p r toks fns := by
  obtain ⟨hb, hk⟩ := ho
  have h5 : ∀ (k : Nat) (cs : Array Value) (f : Nat × Nat), w.heap[k]? = some (Obj.cells cs 5 f) → w'.heap[k]? = some (Obj.cells cs 5 f) := fun k cs f hh => hk k cs 5 f hh (by decide)
  refine ⟨⟨⟨hk _ _ _ _ h.lx.lex (by decide), hk _ _ _ _ h.lx.inp (by decide), fun i hi => ?_, ?_, h.lx.nb, h.lx.nl, h.lx.n0, ?_, h.lx.pl, h.lx.sp, h.lx.cp, h.lx.big, Keep.refl _ _⟩, ?_, hk _ _ _ _ h.par (by decide), h.bl, h.bg, h.bb, h.bp, h.b0, h.nobs, ?_⟩, ?_, fun k hk' => ?_⟩
  · obtain ⟨cs, f, h1⟩ := h.tb
    rw [cell_at (h5 _ _ _ h1), ← cell_at h1]; exact h.lx.txt i hi
  · rw [hb.cell (p := ⟨0, 0, none⟩) h.b0]; exact h.lx.io
  · exact (Array.getElem?_eq_some_iff.1 (hk _ _ _ _ h.lx.inp (by decide))).1
  · obtain ⟨cs, f, h1⟩ := h.tb; exact ⟨cs, f, h5 _ _ _ h1⟩
  · refine Own.keep h.stk fun k hk' => ?_
    obtain ⟨_, _, cur, hc⟩ := Own.lt h.stk k hk'
    exact (hk _ _ _ _ hc (by decide)).trans hc.symm
  · refine h.buf.1.keep fun k hk' => ?_
    obtain ⟨_, _, cur, hc⟩ := h.buf.1.lt k hk'
    exact (hk _ _ _ _ hc (by decide)).trans hc.symm
  · obtain ⟨h0, cs, f, h1, h2⟩ := h.buf.2 k hk'
    exact ⟨h0, cs, f, h5 _ _ _ h1, h2⟩
/-- The parser has gone on: the pieces stay. -/
theorem Pcs.adv {B : Nat} {w0 w w' : World} {v : Value} {ps : List (ByteArray × List UInt8 × List UInt8)} (h : Pcs B w0 w v ps) (ha : Adv B w w') : Pcs B w0 w' v ps := by
  obtain ⟨cs, ho, hs, h1, h2⟩ := h
  refine ⟨cs, ho.keep fun k hk => ?_, fun i hi => ?_, h1.trans ha.below, h2⟩
  · obtain ⟨_, _, cur, hc⟩ := ho.lt k hk
    exact (ha.kt _ _ _ _ (.inr rfl) hc).trans hc.symm
  · obtain ⟨nv, tv, a, b, c⟩ := hs i hi
    exact ⟨nv, tv, a, b.keep (fun k _ hk => ha.below.block k hk) ha.u8, c.keep (fun k _ hk => ha.below.block k hk) ha.u8⟩
theorem Pcs.base {B : Nat} {w0 w0' w : World} {v : Value} {ps : List (ByteArray × List UInt8 × List UInt8)} (h : Pcs B w0 w v ps) (hb : Below B w0' w0) (hB : B ≤ w0'.heap.size) : Pcs B w0' w v ps := by
  obtain ⟨cs, ho, hs, h1, h2⟩ := h
  exact ⟨cs, ho, hs, hb.trans h1, hB⟩

/-- A part of a sheet: its kind, its bytes, its values. -/
abbrev Ev := Int × List UInt8 × List Tok
def evP (e : Ev) : ByteArray × List UInt8 × List UInt8 := (gname e.1, e.2.1, bars (e.2.2.map Tok.bs))
/-- While the values of a piece are put together. -/
def QRel (w1 : World) (og : Nat) (kd : ByteArray) (nv : Value) (wr : World) (tv : Value) (l : List UInt8) : Prop :=
  Txt w1.heap.size w1 wr tv l ∧ wr.heap[og]? = some (.cells (pcs kd nv tv) 55 (0, 0)) ∧ w1.heap.size ≤ og
theorem bars_prefix (a b : List (List UInt8)) : (bars a).length ≤ (bars (a ++ b)).length := by
  rw [bars, bars, List.flatMap_append, List.length_append]; omega
end Go.Proofs.YtlglijnaeaonpaaGreatDoor.Css
/- The parts of a sheet, one by one, as pieces. -/
namespace Go.Proofs.YtlglijnaeaonpaaGreatDoor.Css
open Go.RowKit

theorem eqIface (w : World) (a : Addr) : (binOp .eql 61 (.iface 198 (.pointer (some a))) (.iface 198 (.pointer (some a)))).run Tryz.prog w = .ok (.bool true) w := by
  obtain ⟨i, hi, hc⟩ := Option.map_eq_some_iff.1 (show (Tryz.prog.info? 198).map (·.comparable) = some true from by kernel_rfl)
  have hp := Tryz.underlying198
  obtain ⟨j, hj, _⟩ := Option.map_eq_some_iff.1 (show (Tryz.prog.info? 212).map (fun _ => true) = some true from by kernel_rfl)
  exact run_eql_iface_ptr_same w a Tryz.underlying61 hp hi hc hj
theorem Buf.any {w : World} {B : Nat} {v : Value} {l : List Tok} (h : Buf w B v l) : ∃ a c, v = .slice a l.length c ∧ l.length ≤ c ∧ c ≤ maxLen ∧ (0 < l.length → ∃ g o, a = some ⟨g, o, none⟩) := by
  rcases h.1.2 with ⟨h1, h2⟩ | ⟨g, off, cap, cur, hv, _, _, _, _, hn, hm⟩
  · exact ⟨none, 0, by rw [h2]; exact h1, by omega, by unfold maxLen; omega, fun h => by omega⟩
  · exact ⟨_, cap, hv, hn, hm, fun _ => ⟨g, off, rfl⟩⟩
theorem nbs_snoc (l : List Tok) (j : Nat) (h : j < l.length) : ((l.take (j + 1)).filter nb).map Tok.bs = ((l.take j).filter nb).map Tok.bs ++ (if nb l[j] then [l[j].bs] else []) := by
  rw [List.take_succ_eq_append_getElem h, List.filter_append, List.map_append]
  congr 1
  cases hb : nb l[j] <;> simp [hb]
/-- A machine of parts: from each of its states the parser gives the part that it tells. -/
structure Mach (X : Lx) (pp B : Nat) (w0 : World) (F : Nat → PR → List Tok → List Nat → List Ev → Prop) : Prop where
  nil : ∀ p r toks fns w, F p r toks fns [] → PAt X pp B w p r toks fns → Below B w0 w → Calls Tryz.prog 21 #[.pointer (some ⟨pp, 0, none⟩)] w (NP X pp B w 0 (fun _ p' r' _ _ => p' = X.t.length ∧ ∃ a n c, r'.data = .slice a n c))
  cons : ∀ p r toks fns w (e : Ev) evs, F p r toks fns (e :: evs) → PAt X pp B w p r toks fns → Below B w0 w →
    Calls Tryz.prog 21 #[.pointer (some ⟨pp, 0, none⟩)] w (NP X pp B w e.1 (fun w' p' r' toks' fns' => Slb w' r'.data e.2.1 ∧ toks'.filter nb = e.2.2 ∧ F p' r' toks' fns' evs))
structure EvOK (evs : List Ev) : Prop where
  le : evs.length ≤ 90000
  gt : ∀ e ∈ evs, e.1 = 2 ∨ e.1 = 3 ∨ e.1 = 4 ∨ e.1 = 6 ∨ e.1 = 7 ∨ e.1 = 8
  nm : ∀ e ∈ evs, e.2.1.length ≤ 1000000
  tx : ∀ e ∈ evs, (bars (e.2.2.map Tok.bs)).length ≤ 1000000
def RPost (w : World) (ps : List (ByteArray × List UInt8 × List UInt8)) (e : Ending) (w' : World) : Prop := ∃ out, e = .returned (.tuple #[out, .bool true]) ∧ Pcs w.heap.size w w' out ps
/-- Some pieces with a property are given. -/
def RPostR (w : World) (R : List (ByteArray × List UInt8 × List UInt8) → Prop) (e : Ending) (w' : World) : Prop := ∃ ps, R ps ∧ RPost w ps e w'

set_option maxRecDepth 100000 in
set_option maxHeartbeats 4000000 in
theorem rules_rel (inl : Bool) (rf : Value → PR) (fns0 : List Nat) (hNP : NewParAny inl rf fns0) (w : World) (v : Value) (l : List UInt8) (eof : Addr) (hv : Slb w v l) (hl : l.length + 1 ≤ 140737488351232) (hn : NoBs l) (hio : w.cell? ⟨0, 0, none⟩ = some (.iface 198 (.pointer (some eof))))
    (R : List (ByteArray × List UInt8 × List UInt8) → Prop) (hF : ∀ X pp st, X.t = l → ∃ F evs, EvOK evs ∧ R (evs.map evP) ∧ Mach X pp w.heap.size w F ∧ F 0 (rf st) [] fns0 evs) :
    Calls Tryz.prog 7 #[v, .bool inl] w (RPostR w R) := by
  have hB0 : 0 < w.heap.size := World.block_lt_of_cell? w _ hio
  have hcp := copy20 w v l hv (by omega)
  obtain ⟨va, vc, rfl, _⟩ := id hv
  have HF := Lib.hid hF
  have HIO := Lib.hid hio
  have HN := Lib.hid hn
  have HNP := Lib.hid hNP
  clear hF hio hn hv hNP
  go_enter Tryz.func7, Tryz.ntmps7
  go_upto_region 2 with (first | (go_at_call 20; ((with_reducible refine hcp.mono ?_); rintro e w1 ⟨rfl, hr1, hb1⟩; have hni := newInput_any w.heap.size w1 w.heap.size l hr1 (Nat.le_refl _) hl; clear hcp)) | (go_at_call 19; ((with_reducible refine hni.mono ?_); rintro e w2 ⟨g, b, off, cap, rv, rfl, hin, htx, hcap, hg, hb, hb2⟩; have hio2 := (hb2.cell (p := ⟨0, 0, none⟩) hB0).trans ((hb1.cell (p := ⟨0, 0, none⟩) hB0).trans HIO.out); have hnp := HNP.out w.heap.size w2 g b off cap rv eof l hB0 (Nat.le_trans hb1.size hg) hb (Nat.le_trans hb1.size hb2.size) hl hcap HN.out hin htx hio2; clear hni hin htx hio2)) | (go_at_call 18; ((with_reducible refine hnp.mono ?_); rintro e w3 ⟨X, pp, st, rfl, hXt, hXe, hP, hb3⟩; have hbel := (hb1.trans hb2).trans hb3; clear hnp hr1 hb1 hb2 hb3 hg hb hcap)))
  obtain ⟨F, evs, hev, hps, hM, hF0⟩ := HF.out X pp st hXt
  have HEV := Lib.hid hev
  have HPS := Lib.hid hps
  clear hev hps
  have hP0 := hP.alloc (.cells #[] 55)
  have hO0 : Pcs w.heap.size w (w3.alloc (.cells #[] 55)) (.slice (some ⟨w3.heap.size, 0, none⟩) 0 0) ((evs.take 0).map evP) := by
    obtain ⟨cs, a1, a2, a3, a4⟩ := Pcs.start w3
    rw [List.take_zero]
    obtain ⟨b1, b2⟩ := a1
    refine ⟨cs, ⟨b1, ?_⟩, fun i hi => absurd hi (by simp), hbel.trans (a3.mono hbel.size), Nat.le_refl _⟩
    rcases b2 with b2 | ⟨g, off, cap, cur, e1, e2, e3⟩
    · exact .inl b2
    · exact .inr ⟨g, off, cap, cur, e1, Nat.le_trans hbel.size e2, e3⟩
  have HM := Lib.hid hM
  have HXE := Lib.hid hXe
  clear hM hP hbel hXe hXt
  go_wp2
  go_loopg [7, 20] evs.length (fun k o i wr => ∃ q p r toks fns, q ≤ evs.length ∧ k = evs.length - q ∧ i = .int .i64 q ∧ PAt X pp w.heap.size wr p r toks fns ∧ F p r toks fns (evs.drop q) ∧ Pcs w.heap.size w wr o ((evs.take q).map evP))
  case atStart => exact ⟨0, 0, _, _, _, Nat.zero_le _, rfl, rfl, hP0, hF0, hO0⟩
  case round =>
    clear hP0 hF0 hO0
    obtain ⟨q, p, r, toks, fns, hq, hk, rfl, hP, hFq, hO⟩ := hrel
    have hBl : Below w.heap.size w wr := by
      obtain ⟨_, _, _, hb, _⟩ := id hO
      exact hb
    have HK := Lib.hid hk
    clear hk
    have hq1000 := HEV.out.le
    have hqi : (q : Int) < 100000 := by omega
    have hqn : q < 100000 := by omega
    obtain ⟨oa, on, oc, rfl⟩ := hO.shape
    have HO := Lib.hid hO
    by_cases hlt : q < evs.length
    · obtain ⟨ev, hee⟩ : ∃ ev, ev = evs[q] := ⟨_, rfl⟩
      have hmem : ev ∈ evs := by rw [hee]; exact List.getElem_mem hlt
      have hg1 := HEV.out.gt ev hmem
      have hg2 := HEV.out.nm ev hmem
      have HTX := Lib.hid (HEV.out.tx ev hmem)
      have HTK := Lib.hid (show (evs.take (q + 1)).map evP = (evs.take q).map evP ++ [evP ev] from by
        rw [List.take_succ_eq_append_getElem hlt, List.map_append, ← hee]; rfl)
      have hFq2 : F p r toks fns (ev :: evs.drop (q + 1)) := by rw [hee, ← List.drop_eq_getElem_cons hlt]; exact hFq
      have hnx := HM.out.cons p r toks fns wr ev _ hFq2 hP hBl
      clear hBl
      have HLT := Lib.hid hlt
      obtain ⟨gt, nm, vals⟩ := ev
      simp only at hg1 hg2 hnx HTX
      have hg0 : ((gt : Int) == 0) = false := by rw [beq_eq_false_iff_ne]; omega
      have hrn := fun w => ruleName_any w gt hg1
      have HG := Lib.hid hg1
      clear hmem hee hFq hFq2 hP hO hlt hg1
      go_upto_region 7 with (first | (go_at_call 21; ((with_reducible refine hnx.mono ?_); rintro e w4 ⟨p', r', toks', fns', rfl, hP4, hA4, hsb, hfl, hF4⟩; have hcy := fun w5 (hb : Below w4.heap.size w4 w5) => copy20 w5 _ nm (hsb.below hb) (by omega); obtain ⟨da, dc, hda, _⟩ := id hsb; rw [hda] at hcy ⊢; clear hnx)) | (go_at_call 22; ((with_reducible refine (hrn _).mono ?_); rintro e w5 ⟨rfl, hb5⟩)) | (go_at_call 20; ((with_reducible refine (hcy _ hb5).mono ?_); rintro e w6 ⟨rfl, hr6, hb6⟩; clear hcy)))
      have hbb := hb5.trans (hb6.mono hb5.size)
      have hP6 := hP4.below hbb
      have hO6 := (HO.out.adv hA4).below hbb
      have hNV : Slp w.heap.size w6 (.slice (some ⟨w5.heap.size, 0, none⟩) nm.length nm.length) nm := (Txt.ofRow hr6 (Nat.le_refl _) (by unfold maxLen; omega)).slp
      have hQ0 : QRel w6 w6.heap.size (gname gt) (.slice (some ⟨w5.heap.size, 0, none⟩) nm.length nm.length) (w6.alloc (.cells (pcs (gname gt) (.slice (some ⟨w5.heap.size, 0, none⟩) nm.length nm.length) (.slice none 0 0)) 55)) (.slice none 0 0) (bars (((toks'.take 0).filter nb).map Tok.bs)) :=
        ⟨(Txt.nil w6).alloc _, alloc_new _ _, Nat.le_refl _⟩
      have hva := values_any X pp w.heap.size _ _ _ _ _ (hP6.alloc (.cells #[.string (gname gt), .slice (some ⟨w5.heap.size, 0, none⟩) nm.length nm.length, .slice none 0 0, .slice none 0 0, .slice none 0 0, .string ⟨#[]⟩] 55))
      obtain ⟨ba, bc, hbv, hbc, hbm, hbp⟩ := hP6.buf.any
      have hbu := hP6.buf
      rw [hbv] at hva hbu
      unfold maxLen at hbm
      have HH := Lib.hid (show _ ∧ _ ∧ _ ∧ _ ∧ _ ∧ _ from ⟨hP6, hO6, hNV, hF4, hbu, hbp⟩)
      have HFL := Lib.hid hfl
      clear hP4 hA4 hsb hfl hF4 hb5 hb6 hr6 hbb hP6 hO6 hNV hbu hbp hbv hda hrn
      go_wp2_with (go_at_call 23; ((with_reducible refine hva.mono ?_); rintro e w7 ⟨rfl, rfl⟩; clear hva))
      go_loopg [38] toks'.length (fun k i wr => ∃ j tv, j ≤ toks'.length ∧ k = toks'.length - j ∧ i = .int .i64 j ∧ QRel w6 w6.heap.size (gname gt) (.slice (some ⟨w5.heap.size, 0, none⟩) nm.length nm.length) wr tv (bars (((toks'.take j).filter nb).map Tok.bs)))
      case atStart => exact ⟨0, _, Nat.zero_le _, rfl, rfl, hQ0⟩
      case round =>
        clear hQ0
        obtain ⟨j, tv, hj, hk2, rfl, hT, hog, _⟩ := hrel
        have HK2 := Lib.hid hk2
        clear hk2
        obtain ⟨ta, tn, tc, rfl⟩ := hT.shape
        by_cases hjl : j < toks'.length
        · obtain ⟨bg, bo, rfl⟩ := HH.out.2.2.2.2.2 (by omega)
          obtain ⟨d0, d1⟩ := HH.out.2.2.2.2.1.cell j hjl
          have hok := HH.out.1.buf.2 toks'[j] (List.getElem_mem hjl)
          have HSN := Lib.hid (nbs_snoc toks' j hjl)
          have HLB := Lib.hid (show (bars (((toks'.take (j + 1)).filter nb).map Tok.bs)).length ≤ 1000000 from by
            have h1 := HTX.out
            rw [← HFL.out] at h1
            have h2 := bars_prefix (((toks'.take (j + 1)).filter nb).map Tok.bs) (((toks'.drop (j + 1)).filter nb).map Tok.bs)
            rw [← List.map_append, ← List.filter_append, List.take_append_drop] at h2
            omega)
          have HJL := Lib.hid hjl
          obtain ⟨tk, htk⟩ : ∃ tk, tk = toks'[j]'hjl := ⟨_, rfl⟩
          simp only [← htk] at d0 d1 hok HSN
          have e0 := (hT.bel.cell (p := ⟨bg, bo + j * 2, none⟩) (World.block_lt_of_cell? w6 _ d0)).trans d0
          have e1 := (hT.bel.cell (p := ⟨bg, bo + j * 2 + 1, none⟩) (World.block_lt_of_cell? w6 _ d1)).trans d1
          clear d0 d1 htk
          obtain ⟨ktt, kb, koff, kcap, kbs⟩ := tk
          simp only [Tok.val] at e0 e1
          have HOK := Lib.hid hok
          clear hok
          go_upto_region 9 with fail
          go_cut [13] (fun s wx => ∃ tg, s = .pointer (some ⟨tg, 0, none⟩) ∧ wx.cell? ⟨tg, 0, none⟩ = some (.int .u32 ktt) ∧ wx.cell? ⟨tg, 1, none⟩ = some (.slice (some ⟨kb, koff, none⟩) kbs.length kcap) ∧ Below wr.heap.size wr wx)
          case first =>
            have hb := (Below.refl wr.heap.size wr).alloc (Nat.le_refl _)
            go_wp2_with fail
            go_meet
            exact ⟨_, rfl, by rw [World.cell?_alloc_new]; rfl, by rw [World.cell?_alloc_new]; rfl, hb _⟩
          case rest =>
          clear e0 e1
          obtain ⟨tg, rfl, c0, c1, hbx⟩ := hcut
          have hT1 := hT.below hbx
          have hog1 : wc.heap[w6.heap.size]? = some (.cells (pcs (gname gt) (.slice (some ⟨w5.heap.size, 0, none⟩) nm.length nm.length) (.slice ta tn tc)) 55 (0, 0)) := by
            rw [hbx.block _ (Array.getElem?_eq_some_iff.1 hog).1]; exact hog
          have t2 : wc.cell? ⟨w6.heap.size, 2, none⟩ = some (.slice ta tn tc) := by rw [cell_at hog1]; rfl
          clear hT hog hbx
          cases hnb : (ktt == 20) with
          | true =>
            have HEQ := Lib.hid (show ((toks'.take (j + 1)).filter nb).map Tok.bs = ((toks'.take j).filter nb).map Tok.bs from by
              rw [HSN.out, show nb ⟨ktt, kb, koff, kcap, kbs⟩ = false from by rw [nb, bne, hnb]; rfl]; simp)
            have HT := Lib.hid (show _ ∧ _ from ⟨hT1, hog1⟩)
            obtain rfl : ktt = 20 := beq_iff_eq.1 hnb
            clear hT1 hog1 hnb c1 t2
            go_wp2
            go_roundg (toks'.length - (j + 1))
            case measure => have h1 := HK2.out; have h2 := HJL.out; omega
            case rel => exact ⟨j + 1, _, HJL.out, rfl, by go_num, by rw [HEQ.out]; exact ⟨HT.out.1, HT.out.2, Nat.le_refl _⟩⟩
          | false =>
            have HEQ := Lib.hid (show bars (((toks'.take (j + 1)).filter nb).map Tok.bs) = bars (((toks'.take j).filter nb).map Tok.bs) ++ kbs ++ [124] from by
              rw [HSN.out, show nb ⟨ktt, kb, koff, kcap, kbs⟩ = true from by rw [nb, bne, hnb]; rfl]; simp [bars])
            have HLN := Lib.hid (show (bars (((toks'.take j).filter nb).map Tok.bs)).length + kbs.length + 1 ≤ 1000000 from by
              have h1 := HLB.out
              rw [HEQ.out] at h1
              simp only [List.length_append, List.length_cons, List.length_nil] at h1
              omega)
            have HPZ := Lib.hid hog1
            have HL := Lib.hid (show Lies wc kb koff kbs from by
              have h1 := HOK.out
              obtain ⟨_, cs, f, a1, a2⟩ := h1
              intro i hi
              rw [cell_at (b := kb) (cs := cs) (t := 5) (f := f) (by rw [hT1.bel.block _ (Array.getElem?_eq_some_iff.1 a1).1]; exact a1)]
              exact a2 i hi)
            have hne : ¬ ktt = 20 := beq_eq_false_iff_ne.1 hnb
            clear hog1 hnb
            have HW := Lib.hid (show _ ∧ _ ∧ _ from ⟨c1, t2, hT1⟩)
            go_upto_region 10 with fail
            go_cut [44] (fun s wx => s = .bool true ∧ wx = wc)
            case first =>
              clear c1 t2 hT1
              go_wp2_with fail
              go_meet
              exact ⟨by simp [hne], rfl⟩
            case rest =>
            obtain ⟨rfl, rfl⟩ := hcut
            go_wp2_with (first | (at_builtin; refine app_slice rfl (.tmp 46) (.tmp 48) rfl rfl hT1 rfl rfl HL.out (by have := HLN.out; omega) ?_; intro v' w8 hT4 hot4; obtain ⟨va4, vn4, vc4, rfl⟩ := hT4.shape) | (at_builtin; refine app_slice rfl (.tmp 49) (.tmp 50) rfl rfl (hT4.alloc _) rfl rfl (new1 _ 124 _ rfl) (by have := HLN.out; simp only [List.length_append, List.length_cons, List.length_nil]; omega) ?_; intro v' w9 hT5 hot5; obtain ⟨va5, vn5, vc5, rfl⟩ := hT5.shape; have hot := hot4.trans ((Oth.alloc _ _).trans hot5); have hp5 := hot _ _ _ _ HPZ.out (by decide); have c25 : w9.cell? ⟨w6.heap.size, 2, none⟩ = some (.slice ta tn tc) := (by rw [cell_at hp5]; rfl); have f25 := frozen_at hp5 2))
            have HT5 := Lib.hid (show QRel w6 w6.heap.size (gname gt) (.slice (some ⟨w5.heap.size, 0, none⟩) nm.length nm.length) (w9.setCell ⟨w6.heap.size, 2, none⟩ (.slice va5 vn5 vc5)) (.slice va5 vn5 vc5) (bars (((toks'.take j).filter nb).map Tok.bs) ++ kbs ++ [124]) from
              ⟨hT5.set hp5 (by decide) (Nat.le_refl _) _ _, by rw [heap_set hp5]; rfl, Nat.le_refl _⟩)
            clear hT1 hT4 hT5 hot4 hot5 hot hp5 t2 c25 f25
            go_roundg (toks'.length - (j + 1))
            case measure => have h1 := HK2.out; have h2 := HJL.out; omega
            case rel => exact ⟨j + 1, _, HJL.out, rfl, by go_num, by rw [HEQ.out]; exact HT5.out⟩
        · have hj' : j = toks'.length := by omega
          have hTF : Txt w6.heap.size w6 wr (.slice ta tn tc) (bars (vals.map Tok.bs)) := by
            have := hT
            rw [hj', List.take_length, HFL.out] at this
            exact this
          have z0 : wr.cell? ⟨w6.heap.size, 0, none⟩ = some (.string (gname gt)) := by rw [cell_at hog]; rfl
          have z1 : wr.cell? ⟨w6.heap.size, 1, none⟩ = some (.slice (some ⟨w5.heap.size, 0, none⟩) nm.length nm.length) := by rw [cell_at hog]; rfl
          have z2 : wr.cell? ⟨w6.heap.size, 2, none⟩ = some (.slice ta tn tc) := by rw [cell_at hog]; rfl
          have z3 : wr.cell? ⟨w6.heap.size, 3, none⟩ = some (.slice none 0 0) := by rw [cell_at hog]; rfl
          have z4 : wr.cell? ⟨w6.heap.size, 4, none⟩ = some (.slice none 0 0) := by rw [cell_at hog]; rfl
          have z5 : wr.cell? ⟨w6.heap.size, 5, none⟩ = some (.string ⟨#[]⟩) := by rw [cell_at hog]; rfl
          have hPr := HH.out.1.below hTF.bel
          have hOr := HH.out.2.1.below hTF.bel
          have hNr := HH.out.2.2.1.below hTF.bel
          have hle : ((evs.take q).map evP).length ≤ 1000000 := by rw [List.length_map, List.length_take]; omega
          have HJ := Lib.hid hj'
          clear hT hog hjl hj
          go_wp2_with (at_builtin; refine app_p rfl (.tmp 54) (.tmp 56) rfl rfl (hOr.below ((Below.refl _ _).alloc (Nat.le_refl _) _)) rfl (alloc_new _ _) (hNr.below ((Below.refl _ _).alloc (Nat.le_refl _) _)) ((hTF.alloc _).slp) hle ?_; intro v' w8 hO8 hoth; obtain ⟨va8, vn8, vc8, rfl⟩ := hO8.shape; have hP8 := (hPr.alloc _).other hoth)
          have HT5 := Lib.hid (show _ ∧ _ from ⟨hO8, hP8⟩)
          clear hO8 hP8 hoth hPr hOr hNr hTF z0 z1 z2 z3 z4 z5
          go_roundg (evs.length - (q + 1))
          case measure => have h1 := HK.out; have h2 := HLT.out; omega
          case rel => exact ⟨q + 1, p', r', toks', fns', HLT.out, rfl, by go_num, HT5.out.2, HH.out.2.2.2.1, by rw [HTK.out]; exact HT5.out.1⟩
    · have hq' : q = evs.length := by omega
      have hnx := HM.out.nil p r toks fns wr (by rw [hq', List.drop_length] at hFq; exact hFq) hP hBl
      clear hBl
      have HQ := Lib.hid hq'
      clear hq' hFq hP hO hlt
      go_upto_region 15 with (go_at_call 21; ((with_reducible refine hnx.mono ?_); rintro e w4 ⟨p', r', toks', fns', rfl, hP4, hA4, hpe, da, dn, dc, hda⟩; rw [hda]; clear hnx))
      have hO4 := HO.out.adv hA4
      have her := err_any X pp w.heap.size w4.drew p' r' toks' fns' hP4.drew hpe
      have c0 := hP4.drew.lx.io
      rw [HXE.out] at her c0
      have keq := eqIface
      have HO4 := Lib.hid hO4
      clear hO4 hP4 hA4 hpe hda
      go_region_with (go_at_call 24; ((with_reducible refine her.mono ?_); rintro e w5 ⟨rfl, hP5, hA5⟩; have c05 := hP5.lx.io; rw [HXE.out] at c05; have hO5 := (HO4.out.adv (Adv.refl _ _).drew).adv hA5; clear her))
      all_goals go_wp2_with fail
      all_goals go_ret2
      all_goals refine ⟨_, HPS.out, _, rfl, ?_⟩
      all_goals (rw [HQ.out, List.take_length] at hO5; exact hO5)
theorem rules_any (inl : Bool) (rf : Value → PR) (fns0 : List Nat) (hNP : NewParAny inl rf fns0) (w : World) (v : Value) (l : List UInt8) (eof : Addr) (hv : Slb w v l) (hl : l.length + 1 ≤ 140737488351232) (hn : NoBs l) (hio : w.cell? ⟨0, 0, none⟩ = some (.iface 198 (.pointer (some eof))))
    (ps : List (ByteArray × List UInt8 × List UInt8)) (hF : ∀ X pp st, X.t = l → ∃ F evs, EvOK evs ∧ evs.map evP = ps ∧ Mach X pp w.heap.size w F ∧ F 0 (rf st) [] fns0 evs) :
    Calls Tryz.prog 7 #[v, .bool inl] w (RPost w ps) :=
  (rules_rel inl rf fns0 hNP w v l eof hv hl hn hio (fun x => x = ps) hF).mono fun e w' h => by
    obtain ⟨_, rfl, h⟩ := h
    exact h
end Go.Proofs.YtlglijnaeaonpaaGreatDoor.Css
/- The parser's machine for the declarations of a style. -/
namespace Go.Proofs.YtlglijnaeaonpaaGreatDoor.Css
open Go.RowKit

/-- Declarations one behind the other, up to the end of the text. -/
inductive DStr (X : Lx) : Nat → List Ev → Prop where
  | nil (p : Nat) : spanEnd X.t isWS p = X.t.length → DStr X p []
  | cons (p p1 q e : Nat) (tE : Int) (vE : Value) (qE : Nat) (vals : List Tok) (evs : List Ev) : spanEnd X.t isWS p = p1 → Tk X.t p1 1 q → DeclIn X q (X.tok 1 p1 q) vals e tE vE qE → (tE == 31) = false → DStr X qE evs →
      DStr X p ((8, seg X.t p1 q, vals) :: evs)
def StyF (X : Lx) (p : Nat) (r : PR) (_toks : List Tok) (fns : List Nat) (evs : List Ev) : Prop := DStr X p evs ∧ r.pe = false ∧ r.level = 0 ∧ fns.getLast? = some 38

theorem style_mach (X : Lx) (pp B : Nat) (w0 : World) : Mach X pp B w0 (StyF X) where
  nil := by
    intro p r toks fns w hF hP _
    obtain ⟨hD, hpe, hlv, hfn⟩ := hF
    cases hD with
    | nil _ he =>
      refine next_pop38 X pp B w p r toks fns hP hpe 0 (.slice none 0 0) X.t.length (.end_ he) hfn 0 _ (fun w p r t f n h => h) fun w1 hP1 hA1 => ?_
      exact (list_end X pp B w1 _ _ _ _ hP1 rfl).mono fun e w' ⟨h1, h2⟩ => by
        subst h2
        exact ⟨h1, _, _, _, _, hP1, Adv.refl _ _, rfl, _, _, _, rfl⟩
  cons := by
    intro p r toks fns w e evs hF hP _
    obtain ⟨hD, hpe, hlv, hfn⟩ := hF
    cases hD with
    | cons _ p1 q ee tE vE qE vals _ h1 h2 h3 h4 h5 =>
      refine next_pop38 X pp B w p r toks fns hP hpe 1 (X.tok 1 p1 q).val q (.tk p1 1 q h1 h2 (by decide) (by decide)) hfn 8 _ (fun w p r t f n h => ?_) fun w1 hP1 hA1 => ?_
      · obtain ⟨a, b, c⟩ := h
        exact ⟨a.below ⟨rfl, rfl, rfl, Nat.le_refl _, fun _ _ => rfl⟩, b, c⟩
      · have hq : q ≤ X.t.length := hP1.lx.pl
        exact (list_decl X pp B w1 q _ toks fns hP1 (X.tok 1 p1 q) vals ee tE vE qE h3 (hP1.toPB.tok 1 hq) rfl rfl hlv).mono fun e w' ⟨g1, bufv, dv, out, g2, g3, g4, g5⟩ =>
          ⟨g1, _, _, _, _, g4, g5, g2, g3, h5, h4, rfl, hfn⟩
end Go.Proofs.YtlglijnaeaonpaaGreatDoor.Css
