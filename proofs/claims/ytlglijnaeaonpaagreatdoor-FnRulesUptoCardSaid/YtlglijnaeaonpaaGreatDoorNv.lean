/- What the arguments hold, out of their reading. -/
import Derived.Test.YtlglijnaeaonpaaGreatDoorRows
import Derived.Deep.SlicePairs
import Derived.ProofKit
import Derived.SizedLaws
import Derived.LoopN
import Derived.WalkMore
import Derived.PinnedBridge
import Derived.Lib.LaidU8
import Derived.Lib.LaidIn
import Derived.Stop.LaidErr
import Derived.OpenVars
import Derived.Test.YtlglijnaeaonpaaGreatDoorNz
import Derived.Test.YtlglijnaeaonpaaGreatDoorMc
import Derived.Test.YtlglijnaeaonpaaGreatDoorMo
set_option linter.all false
/- What the arguments hold, out of their reading. -/
namespace Go.Proofs.YtlglijnaeaonpaaGreatDoor.Css
open Go.RowKit Go.ChangeShapes Go.WideShapes Go.Deep

theorem cells5 : Tryz.prog.cellsOf 5 = 1 := by kernel_rfl
theorem cells24 : Tryz.prog.cellsOf 24 = 1 := by kernel_rfl
theorem cells36 : Tryz.prog.cellsOf 36 = 1 := by kernel_rfl
theorem cells31 : Tryz.prog.cellsOf 31 = 1 := by kernel_rfl
theorem cells22 : Tryz.prog.cellsOf 22 = 1 := by kernel_rfl
theorem cells9 : Tryz.prog.cellsOf 9 = 1 := by kernel_rfl
theorem cells68 : Tryz.prog.cellsOf 68 = 2 := by kernel_rfl
theorem cells38 : Tryz.prog.cellsOf 38 = 5 := by kernel_rfl
theorem bytes5 : 1 ≤ Tryz.prog.bytesOf 5 := by rw [show Tryz.prog.bytesOf 5 = 1 from by kernel_rfl]; omega
theorem bytes24 : 1 ≤ Tryz.prog.bytesOf 24 := by rw [show Tryz.prog.bytesOf 24 = 24 from by kernel_rfl]; omega
theorem bytes68 : 1 ≤ Tryz.prog.bytesOf 68 := by rw [show Tryz.prog.bytesOf 68 = 48 from by kernel_rfl]; omega
theorem bytes38 : 1 ≤ Tryz.prog.bytesOf 38 := by rw [show Tryz.prog.bytesOf 38 = 112 from by kernel_rfl]; omega
/-- No part of a datum is too large for memory. -/
def Wt {H : Type} (t : TypeId) (d : DataW H) : Prop := ∀ n ∈ DataW.weights Tryz.prog t d, n ≤ 140737488351232
theorem weights_mem {H : Type} {e : TypeId} {ds : List (DataW H)} {d : DataW H} (h : d ∈ ds) : ∀ n ∈ DataW.weights Tryz.prog e d, n ∈ DataW.weightsAll Tryz.prog e ds := by
  induction ds with
  | nil => cases h
  | cons a ds ih =>
    intro n hn
    simp only [DataW.weightsAll, List.mem_append]
    rcases List.mem_cons.1 h with rfl | h
    · exact .inl hn
    · exact .inr (ih h n hn)
theorem bulk_pos {H : Type} (d : DataW H) : 1 ≤ Rows.uptoBulk d := by
  cases d with
  | lit l => cases l <;> simp [Rows.uptoBulk]
  | _ => simp [Rows.uptoBulk]
theorem bulk_mem {H : Type} {ds : List (DataW H)} {d : DataW H} (h : d ∈ ds) : Rows.uptoBulk d ≤ Rows.uptoBulkAll ds := by
  induction ds with
  | nil => cases h
  | cons a ds ih =>
    simp only [Rows.uptoBulkAll]
    rcases List.mem_cons.1 h with rfl | h
    · omega
    · have := ih h; omega
theorem bulk_len {H : Type} (ds : List (DataW H)) : ds.length ≤ Rows.uptoBulkAll ds := by
  induction ds with
  | nil => simp
  | cons a ds ih =>
    simp only [Rows.uptoBulkAll, List.length_cons]
    have := bulk_pos a
    omega

section
variable {H : Type} {enc : TypeId × Value → H} {w : World} {held : Bool}
theorem open_cells {t e : TypeId} {sz : Nat} {fuel : Nat} {v : Value} {x : DataW H × List MemPlace} (ht : Tryz.prog.underlying t = some (.slice e)) (hsz : Tryz.prog.cellsOf e = sz) (h0 : 0 < sz) (hby : 1 ≤ Tryz.prog.bytesOf e)
    (h : DataW.trod enc Tryz.prog w 0 (fun _ => true) held fuel t [v] = some x) (hz : Wt t x.1) :
    v = .slice none 0 0 ∨ ∃ (a : Option Addr) (len cap n : Nat), fuel = n + 1 ∧ v = .slice a len cap ∧ len ≤ cap ∧ cap ≤ 140737488351232 ∧ len ≤ Rows.uptoBulk x.1 ∧
      (0 < len → ∃ b off, a = some ⟨b, off, none⟩ ∧ ∀ i, i < len → ∃ cs y, cs.length = sz ∧ (∀ j, j < sz → w.cell? ⟨b, off + i * sz + j, none⟩ = cs[j]?) ∧ DataW.trod enc Tryz.prog w 0 (fun _ => true) held n e cs = some y ∧ Wt e y.1 ∧ Rows.uptoBulk y.1 ≤ Rows.uptoBulk x.1) := by
  rcases DataW.trod_slice ht h with ⟨h1, _⟩ | ⟨a, len, cap, elems, rest, n, hf, h1, rfl, _, hl, hm, hlen, hel, hsp, _⟩
  · exact .inl (by simpa using h1)
  · right
    have hrl := (hsp rfl).1
    have hcp : cap ≤ 140737488351232 := by
      have h2 := hz ((elems.length + rest.length) * Tryz.prog.bytesOf e) (by simp [DataW.weights, ht])
      have h3 : elems.length + rest.length = cap := by omega
      rw [h3] at h2
      exact Nat.le_trans (Nat.le_mul_of_pos_right cap hby) h2
    have hv : v = .slice (some a) len cap := by simpa using h1
    have hb : elems.length ≤ Rows.uptoBulkAll (elems.map (·.1)) := by have := bulk_len (elems.map (·.1)); simpa using this
    refine ⟨some a, len, cap, n, hf, hv, hl, hcp, by simp only [Rows.uptoBulk]; omega, fun hp => ?_⟩
    rw [hsz] at hel
    have key : ∀ i, i < len → ∃ cs y, w.cells? 0 (a.add (i * sz)) sz = some cs ∧ DataW.trod enc Tryz.prog w 0 (fun _ => true) held n e cs = some y ∧ y ∈ elems := by
      intro i hi
      have := hel i hi
      rw [List.getElem?_eq_getElem (by omega)] at this
      obtain ⟨cs, h2, h3⟩ := Option.bind_eq_some_iff.1 this
      exact ⟨cs, _, h2, h3, List.getElem_mem _⟩
    obtain ⟨b, off, spot⟩ := a
    have hspot : spot = none := by
      obtain ⟨cs, y, h2, _, _⟩ := key 0 hp
      obtain ⟨_, h4, h5⟩ := World.cells?_some h2
      have h6 := h5 0 h0
      rw [List.getElem?_eq_getElem (by omega)] at h6
      simpa [Addr.add] using World.cell?_spot h6
    subst hspot
    refine ⟨b, off, rfl, fun i hi => ?_⟩
    obtain ⟨cs, y, h2, h3, h4⟩ := key i hi
    obtain ⟨_, h5, h6⟩ := World.cells?_some h2
    refine ⟨cs, y, h5, fun j hj => ?_, h3, fun n hn => hz n ?_, ?_⟩
    · have := h6 j hj
      rw [add_plain, add_plain] at this
      exact this
    · have hm := weights_mem (List.mem_map_of_mem (f := (·.1)) h4) n hn
      simp only [DataW.weights, ht, List.mem_cons, List.mem_append]
      exact .inr (.inl hm)
    · have := bulk_mem (List.mem_map_of_mem (f := (·.1)) h4)
      simp only [Rows.uptoBulk]
      omega
theorem sl_of {n : Nat} {v : Value} {x : DataW H × List MemPlace} (h : DataW.trod enc Tryz.prog w 0 (fun _ => true) held n 24 [v] = some x) (hz : Wt 24 x.1) : ∃ l, Sl w v l ∧ l.length ≤ Rows.uptoBulk x.1 := by
  rcases open_cells Tryz.underlying24 cells5 (by decide) bytes5 h hz with rfl | ⟨a, len, cap, k, _, rfl, h2, h3, h4, h5⟩
  · exact ⟨[], ⟨none, 0, rfl, Nat.le_refl _, by omega, fun h => absurd h (by simp)⟩, Nat.zero_le _⟩
  rcases Nat.eq_zero_or_pos len with h0 | h0
  · subst h0
    exact ⟨[], ⟨a, cap, rfl, h2, h3, fun h => absurd h (by simp)⟩, h4⟩
  obtain ⟨b, off, rfl, hc⟩ := h5 h0
  have each : ∀ i, i < len → ∃ c : UInt8, w.cell? ⟨b, off + i, none⟩ = some (.int .u8 c.toNat) := by
    intro i hi
    obtain ⟨cs, y, g1, g2, g3, _, _⟩ := hc i hi
    obtain ⟨m, rfl, _, hw⟩ := DataW.trod_int Tryz.underlying5 g3
    have := g2 0 (by decide)
    rw [Nat.mul_one, Nat.add_zero] at this
    have hr : 0 ≤ m ∧ m ≤ 255 := by
      have hw2 : IntKind.u8.min ≤ m ∧ m ≤ IntKind.u8.max := by simpa [Lit.wf] using hw
      exact hw2
    refine ⟨UInt8.ofNat m.toNat, ?_⟩
    rw [this]
    have e : ((UInt8.ofNat m.toNat).toNat : Int) = m := by
      rw [UInt8.toNat_ofNat']
      omega
    rw [e]; rfl
  obtain ⟨f, hf⟩ := choose_lt each
  have hlen : ((List.range len).map f).length = len := by simp
  refine ⟨(List.range len).map f, ⟨some ⟨b, off, none⟩, cap, by rw [hlen], by rw [hlen]; exact h2, h3, fun _ => ⟨b, off, rfl, fun i hi => ?_⟩⟩, by rw [hlen]; exact h4⟩
  rw [hlen] at hi
  rw [hf i hi]
  congr 2
  unfold byte
  rw [List.getD_eq_getElem?_getD, List.getElem?_map, List.getElem?_range hi]
  rfl
theorem words_of {n : Nat} {v : Value} {x : DataW H × List MemPlace} (h : DataW.trod enc Tryz.prog w 0 (fun _ => true) held n 36 [v] = some x) (hz : Wt 36 x.1) : ∃ ws, WordsMem w v ws ∧ ∀ y ∈ ws, y.length ≤ Rows.uptoBulk x.1 := by
  rcases open_cells Tryz.underlying36 cells24 (by decide) bytes24 h hz with rfl | ⟨a, len, cap, k, _, rfl, h2, h3, h4, h5⟩
  · exact ⟨[], ⟨none, 0, rfl, Nat.le_refl _, by omega, fun h => absurd h (by simp)⟩, fun _ h => by cases h⟩
  rcases Nat.eq_zero_or_pos len with h0 | h0
  · subst h0
    exact ⟨[], ⟨a, cap, rfl, h2, h3, fun h => absurd h (by simp)⟩, fun _ h => by cases h⟩
  obtain ⟨b, off, rfl, hc⟩ := h5 h0
  have each : ∀ i, i < len → ∃ l : List UInt8, (∃ u, w.cell? ⟨b, off + i, none⟩ = some u ∧ Sl w u l) ∧ l.length ≤ Rows.uptoBulk x.1 := by
    intro i hi
    obtain ⟨cs, y, g1, g2, g3, gz, g4⟩ := hc i hi
    match cs, g1 with
    | [u], _ =>
      obtain ⟨l, hl, hb⟩ := sl_of g3 gz
      have := g2 0 (by decide)
      rw [Nat.mul_one, Nat.add_zero] at this
      exact ⟨l, ⟨u, this, hl⟩, Nat.le_trans hb g4⟩
  obtain ⟨f, hf⟩ := choose_lt each
  have hlen : ((List.range len).map f).length = len := by simp
  refine ⟨(List.range len).map f, ⟨some ⟨b, off, none⟩, cap, by rw [hlen], by rw [hlen]; exact h2, h3, fun _ => ⟨b, off, rfl, fun i hi => ?_⟩⟩, fun y hy => ?_⟩
  · rw [hlen] at hi
    obtain ⟨u, g1, g2⟩ := (hf i hi).1
    refine ⟨u, g1, ?_⟩
    rw [List.getElem_map, List.getElem_range]
    exact g2
  · obtain ⟨i, hi, rfl⟩ := List.mem_map.1 hy
    exact (hf i (List.mem_range.1 hi)).2
/-- The fields of a struct, one cell each. -/
theorem open_fields {t : TypeId} {fs : Array Field} {n : Nat} {cs : List Value} {y : DataW H × List MemPlace} (ht : Tryz.prog.underlying t = some (.struct fs)) (h : DataW.trod enc Tryz.prog w 0 (fun _ => true) held n t cs = some y) (hz : Wt t y.1) :
    ∃ (k : Nat) (z : Nat → DataW H × List MemPlace), n = k + 1 ∧ (∀ (i : Nat) (f : Field), fs[i]? = some f → DataW.trod enc Tryz.prog w 0 (fun _ => true) held k f.type ((cs.drop f.offset).take (Tryz.prog.cellsOf f.type)) = some (z i) ∧ Wt f.type (z i).1 ∧ Rows.uptoBulk (z i).1 ≤ Rows.uptoBulk y.1) := by
  obtain ⟨xs, k, hk, rfl, _, hxl, hf⟩ := DataW.trod_struct ht h
  refine ⟨k, fun i => xs.getD i (.nil, []), hk, fun i f hi => ?_⟩
  have hlt : i < xs.length := by rw [hxl]; exact (Array.getElem?_eq_some_iff.1 hi).1
  have := hf i f hi
  rw [List.getElem?_eq_getElem hlt] at this
  have e : xs.getD i (.nil, []) = xs[i] := by rw [List.getD_eq_getElem?_getD, List.getElem?_eq_getElem hlt]; rfl
  show _ = some (xs.getD i (.nil, [])) ∧ Wt f.type (xs.getD i (.nil, [])).1 ∧ Rows.uptoBulk (xs.getD i (.nil, [])).1 ≤ _
  rw [e]
  refine ⟨this, fun n hn => hz n ?_, ?_⟩
  · simp only [DataW.weights, ht]
    exact DataW.weights_mem_each (j := i) (t := f.type) (d := xs[i].1) (by rw [List.getElem?_map, Array.getElem?_toList, hi]; rfl) (by rw [List.getElem?_map, List.getElem?_eq_getElem hlt]; rfl) n hn
  have := bulk_mem (List.mem_map_of_mem (f := (·.1)) (List.getElem_mem hlt))
  simp only [Rows.uptoBulk]
  omega
theorem decls_of {n : Nat} {v : Value} {x : DataW H × List MemPlace} (h : DataW.trod enc Tryz.prog w 0 (fun _ => true) held n 31 [v] = some x) (hz : Wt 31 x.1) :
    ∃ ds, DeclsMem w v ds ∧ ∀ d ∈ ds, ∀ y ∈ d.2, y.length ≤ Rows.uptoBulk x.1 := by
  rcases open_cells Tryz.underlying31 cells68 (by decide) bytes68 h hz with rfl | ⟨a, len, cap, k, _, rfl, h2, h3, h4, h5⟩
  · exact ⟨[], ⟨none, 0, rfl, Nat.le_refl _, by omega, fun h => absurd h (by simp)⟩, fun _ h => by cases h⟩
  rcases Nat.eq_zero_or_pos len with h0 | h0
  · subst h0
    exact ⟨[], ⟨a, cap, rfl, h2, h3, fun h => absurd h (by simp)⟩, fun _ h => by cases h⟩
  obtain ⟨b, off, rfl, hc⟩ := h5 h0
  have each : ∀ i, i < len → ∃ d : List UInt8 × List (List UInt8), (∃ u x, w.cell? ⟨b, off + i * 2, none⟩ = some u ∧ w.cell? ⟨b, off + i * 2 + 1, none⟩ = some x ∧ Sl w u d.1 ∧ WordsMem w x d.2) ∧ ∀ y ∈ d.2, y.length ≤ Rows.uptoBulk x.1 := by
    intro i hi
    obtain ⟨cs, y, g1, g2, g3, gz, g4⟩ := hc i hi
    match cs, g1 with
    | [u0, u1], _ =>
      obtain ⟨k2, z, _, hzf⟩ := open_fields Tryz.underlying68 g3 gz
      obtain ⟨z0, y0, _⟩ := hzf 0 { name := "Name", type := 24, offset := 0, embedded := false, tag := "", pkgPath := "", byteOffset := 0 } rfl
      obtain ⟨z1, y1, z2⟩ := hzf 1 { name := "Words", type := 36, offset := 1, embedded := false, tag := "", pkgPath := "", byteOffset := 24 } rfl
      simp only [cells24, cells36, List.drop_zero, List.drop_succ_cons, List.take_succ_cons, List.take_zero] at z0 z1
      obtain ⟨l, hl, _⟩ := sl_of z0 y0
      obtain ⟨ws, hw, hb⟩ := words_of z1 y1
      exact ⟨(l, ws), ⟨u0, u1, g2 0 (by decide), g2 1 (by decide), hl, hw⟩, fun y hy => Nat.le_trans (hb y hy) (Nat.le_trans z2 g4)⟩
  obtain ⟨f, hf⟩ := choose_lt each
  have hlen : ((List.range len).map f).length = len := by simp
  refine ⟨(List.range len).map f, ⟨some ⟨b, off, none⟩, cap, by rw [hlen], by rw [hlen]; exact h2, h3, fun _ => ⟨b, off, rfl, fun i hi => ?_⟩⟩, fun d hd => ?_⟩
  · rw [hlen] at hi
    obtain ⟨u, x, g1, g2, g3, g4⟩ := (hf i hi).1
    refine ⟨u, x, g1, g2, ?_, ?_⟩
    · rw [List.getElem_map, List.getElem_range]; exact g3
    · rw [List.getElem_map, List.getElem_range]; exact g4
  · obtain ⟨i, hi, rfl⟩ := List.mem_map.1 hd
    exact (hf i (List.mem_range.1 hi)).2
end
end Go.Proofs.YtlglijnaeaonpaaGreatDoor.Css
/- The number of an at-rule's name. (Printed by genr4.py.) -/
namespace Go.Proofs.YtlglijnaeaonpaaGreatDoor.Css
open Go.RowKit

/-- The table of numbers. -/
structure HTab (w : World) : Prop where
  c0 : w.cell? ⟨1, 0, none⟩ = some (.int .u32 4361)
  c1 : w.cell? ⟨1, 1, none⟩ = some (.int .u32 11012)
  c2 : w.cell? ⟨1, 2, none⟩ = some (.int .u32 9733)
  c3 : w.cell? ⟨1, 3, none⟩ = some (.int .u32 2057)
  c4 : w.cell? ⟨1, 4, none⟩ = some (.int .u32 8)
  c5 : w.cell? ⟨1, 5, none⟩ = some (.int .u32 0)
  c6 : w.cell? ⟨1, 6, none⟩ = some (.int .u32 6408)
  c7 : w.cell? ⟨1, 7, none⟩ = some (.int .u32 8453)
  lt : 1 < w.heap.size
theorem HTab.below {w w' : World} (h : HTab w) {B : Nat} (hB : 1 < B) (hb : Below B w w') : HTab w' where
  c0 := (hb.cell (p := ⟨1, 0, none⟩) hB).trans h.c0
  c1 := (hb.cell (p := ⟨1, 1, none⟩) hB).trans h.c1
  c2 := (hb.cell (p := ⟨1, 2, none⟩) hB).trans h.c2
  c3 := (hb.cell (p := ⟨1, 3, none⟩) hB).trans h.c3
  c4 := (hb.cell (p := ⟨1, 4, none⟩) hB).trans h.c4
  c5 := (hb.cell (p := ⟨1, 5, none⟩) hB).trans h.c5
  c6 := (hb.cell (p := ⟨1, 6, none⟩) hB).trans h.c6
  c7 := (hb.cell (p := ⟨1, 7, none⟩) hB).trans h.c7
  lt := Nat.lt_of_lt_of_le h.lt hb.size
def hashT : List UInt8 := [100, 111, 99, 117, 109, 101, 110, 116, 102, 111, 110, 116, 45, 102, 97, 99, 101, 107, 101, 121, 102, 114, 97, 109, 101, 115, 117, 112, 112, 111, 114, 116, 115, 108, 97, 121, 101, 114, 109, 101, 100, 105, 97, 112, 97, 103, 101]
set_option maxRecDepth 100000 in
theorem hashText_any (w : World) : Calls Tryz.prog 117 #[] w (NewRow w hashT) := by
  have kc := fun (w : World) (C : Array Value) (n c : Nat) => Lib.run_convert_bytes_const (P := Tryz.prog) w 24 5 C n c Tryz.underlying24 Tryz.underlying5
  go_enter Tryz.func117, Tryz.ntmps117
  go_wp2
  go_ret
  exact NewRow.mk w hashT _ _ rfl
theorem hashAt {w : World} {g : Nat} (h : ∀ tt, (Tok.mk tt g 0 hashT.length hashT).Ok w) (i : Nat) (hi : i < hashT.length) : w.cell? ⟨g, i, none⟩ = some (.int .u8 (byte hashT i)) := by
  have := (h 0).lies i hi
  simpa using this
def HPost (w : World) (h : Int) (e : Ending) (w' : World) : Prop := e = .returned (.int .u32 h) ∧ Below w.heap.size w w'

set_option maxRecDepth 100000 in
set_option maxHeartbeats 4000000 in
theorem hash_media (w : World) (b off cap : Nat) (hL : Lies w b off [109, 101, 100, 105, 97]) (hb : b < w.heap.size) (hT : HTab w) : Calls Tryz.prog 73 #[.slice (some ⟨b, off, none⟩) 5 cap] w (HPost w 9733) := by
  have c0 : w.cell? ⟨b, off, none⟩ = some (.int .u8 109) := hL 0 (by decide)
  have c1 : w.cell? ⟨b, off + 1, none⟩ = some (.int .u8 101) := hL 1 (by decide)
  have c2 : w.cell? ⟨b, off + 2, none⟩ = some (.int .u8 100) := hL 2 (by decide)
  have c3 : w.cell? ⟨b, off + 3, none⟩ = some (.int .u8 105) := hL 3 (by decide)
  have c4 : w.cell? ⟨b, off + 4, none⟩ = some (.int .u8 97) := hL 4 (by decide)
  have x0 : bits BinOp.xor IntKind.u32 1525402570 109 = 1525402535 := by decide
  have m0 : IntKind.u32.wrap (1525402535 * 16777619) = 3358693349 := by decide
  have x1 : bits BinOp.xor IntKind.u32 3358693349 101 = 3358693248 := by decide
  have m1 : IntKind.u32.wrap (3358693248 * 16777619) = 2786164352 := by decide
  have x2 : bits BinOp.xor IntKind.u32 2786164352 100 = 2786164452 := by decide
  have m2 : IntKind.u32.wrap (2786164452 * 16777619) = 1368047852 := by decide
  have x3 : bits BinOp.xor IntKind.u32 1368047852 105 = 1368047749 := by decide
  have m3 : IntKind.u32.wrap (1368047749 * 16777619) = 3798798687 := by decide
  have x4 : bits BinOp.xor IntKind.u32 3798798687 97 = 3798798654 := by decide
  have m4 : IntKind.u32.wrap (3798798654 * 16777619) = 2947687578 := by decide
  have a1 : bits BinOp.and IntKind.u32 2947687578 7 = 2 := by decide
  have t1 := hT.c2
  have a2 : bits BinOp.and IntKind.u32 9733 255 = 5 := by decide
  clear hL hT
  go_enter Tryz.func73, Tryz.ntmps73
  go_wp2
  go_step3
  go_wp2
  refine wp_loop_rounds 6 ?_
  rw [rounds_succ]; go_wp2
  rw [rounds_succ]; go_wp2
  rw [rounds_succ]; go_wp2
  rw [rounds_succ]; go_wp2
  rw [rounds_succ]; go_wp2
  rw [rounds_succ]
  --HIT
  go_upto_region 12 with (go_at_call 117; (with_reducible refine (hashText_any _).mono ?_); rintro e w2 ⟨g, rfl, hok, hb2⟩; have d0 : w2.cell? ⟨g, 38, none⟩ = some (.int .u8 109) := ((hashAt hok 38 (by decide)).trans rfl); have d1 : w2.cell? ⟨g, 39, none⟩ = some (.int .u8 101) := ((hashAt hok 39 (by decide)).trans rfl); have d2 : w2.cell? ⟨g, 40, none⟩ = some (.int .u8 100) := ((hashAt hok 40 (by decide)).trans rfl); have d3 : w2.cell? ⟨g, 41, none⟩ = some (.int .u8 105) := ((hashAt hok 41 (by decide)).trans rfl); have d4 : w2.cell? ⟨g, 42, none⟩ = some (.int .u8 97) := ((hashAt hok 42 (by decide)).trans rfl); have p0 := (hb2.cell (p := ⟨b, off, none⟩) hb).trans c0; have p1 := (hb2.cell (p := ⟨b, off + 1, none⟩) hb).trans c1; have p2 := (hb2.cell (p := ⟨b, off + 2, none⟩) hb).trans c2; have p3 := (hb2.cell (p := ⟨b, off + 3, none⟩) hb).trans c3; have p4 := (hb2.cell (p := ⟨b, off + 4, none⟩) hb).trans c4; clear hok)
  go_wp2
  refine wp_loop_rounds 6 ?_
  rw [rounds_succ]; go_wp2; go_quiet (fail); go_wp2
  rw [rounds_succ]; go_wp2; go_quiet (fail); go_wp2
  rw [rounds_succ]; go_wp2; go_quiet (fail); go_wp2
  rw [rounds_succ]; go_wp2; go_quiet (fail); go_wp2
  rw [rounds_succ]; go_wp2; go_quiet (fail); go_wp2
  rw [rounds_succ]; go_wp2
  rw [Exit.noGoto_ret]
  go_ret
  exact ⟨rfl, hb2.os, hb2.tape, hb2.output, hb2.size, hb2.block⟩

set_option maxRecDepth 100000 in
set_option maxHeartbeats 4000000 in
theorem hash_supports (w : World) (b off cap : Nat) (hL : Lies w b off [115, 117, 112, 112, 111, 114, 116, 115]) (hb : b < w.heap.size) (hT : HTab w) : Calls Tryz.prog 73 #[.slice (some ⟨b, off, none⟩) 8 cap] w (HPost w 6408) := by
  have c0 : w.cell? ⟨b, off, none⟩ = some (.int .u8 115) := hL 0 (by decide)
  have c1 : w.cell? ⟨b, off + 1, none⟩ = some (.int .u8 117) := hL 1 (by decide)
  have c2 : w.cell? ⟨b, off + 2, none⟩ = some (.int .u8 112) := hL 2 (by decide)
  have c3 : w.cell? ⟨b, off + 3, none⟩ = some (.int .u8 112) := hL 3 (by decide)
  have c4 : w.cell? ⟨b, off + 4, none⟩ = some (.int .u8 111) := hL 4 (by decide)
  have c5 : w.cell? ⟨b, off + 5, none⟩ = some (.int .u8 114) := hL 5 (by decide)
  have c6 : w.cell? ⟨b, off + 6, none⟩ = some (.int .u8 116) := hL 6 (by decide)
  have c7 : w.cell? ⟨b, off + 7, none⟩ = some (.int .u8 115) := hL 7 (by decide)
  have x0 : bits BinOp.xor IntKind.u32 1525402570 115 = 1525402553 := by decide
  have m0 : IntKind.u32.wrap (1525402553 * 16777619) = 3660690491 := by decide
  have x1 : bits BinOp.xor IntKind.u32 3660690491 117 = 3660690510 := by decide
  have m1 : IntKind.u32.wrap (3660690510 * 16777619) = 3393115850 := by decide
  have x2 : bits BinOp.xor IntKind.u32 3393115850 112 = 3393115834 := by decide
  have m2 : IntKind.u32.wrap (3393115834 * 16777619) = 451675854 := by decide
  have x3 : bits BinOp.xor IntKind.u32 451675854 112 = 451675838 := by decide
  have m3 : IntKind.u32.wrap (451675838 * 16777619) = 529440026 := by decide
  have x4 : bits BinOp.xor IntKind.u32 529440026 111 = 529440117 := by decide
  have m4 : IntKind.u32.wrap (529440117 * 16777619) = 578936623 := by decide
  have x5 : bits BinOp.xor IntKind.u32 578936623 114 = 578936669 := by decide
  have m5 : IntKind.u32.wrap (578936669 * 16777619) = 2943524711 := by decide
  have x6 : bits BinOp.xor IntKind.u32 2943524711 116 = 2943524627 := by decide
  have m6 : IntKind.u32.wrap (2943524627 * 16777619) = 1148218089 := by decide
  have x7 : bits BinOp.xor IntKind.u32 1148218089 115 = 1148218010 := by decide
  have m7 : IntKind.u32.wrap (1148218010 * 16777619) = 1459081326 := by decide
  have a1 : bits BinOp.and IntKind.u32 1459081326 7 = 6 := by decide
  have t1 := hT.c6
  have a2 : bits BinOp.and IntKind.u32 6408 255 = 8 := by decide
  clear hL hT
  go_enter Tryz.func73, Tryz.ntmps73
  go_wp2
  go_step3
  go_wp2
  refine wp_loop_rounds 9 ?_
  rw [rounds_succ]; go_wp2
  rw [rounds_succ]; go_wp2
  rw [rounds_succ]; go_wp2
  rw [rounds_succ]; go_wp2
  rw [rounds_succ]; go_wp2
  rw [rounds_succ]; go_wp2
  rw [rounds_succ]; go_wp2
  rw [rounds_succ]; go_wp2
  rw [rounds_succ]
  --HIT
  go_upto_region 12 with (go_at_call 117; (with_reducible refine (hashText_any _).mono ?_); rintro e w2 ⟨g, rfl, hok, hb2⟩; have d0 : w2.cell? ⟨g, 25, none⟩ = some (.int .u8 115) := ((hashAt hok 25 (by decide)).trans rfl); have d1 : w2.cell? ⟨g, 26, none⟩ = some (.int .u8 117) := ((hashAt hok 26 (by decide)).trans rfl); have d2 : w2.cell? ⟨g, 27, none⟩ = some (.int .u8 112) := ((hashAt hok 27 (by decide)).trans rfl); have d3 : w2.cell? ⟨g, 28, none⟩ = some (.int .u8 112) := ((hashAt hok 28 (by decide)).trans rfl); have d4 : w2.cell? ⟨g, 29, none⟩ = some (.int .u8 111) := ((hashAt hok 29 (by decide)).trans rfl); have d5 : w2.cell? ⟨g, 30, none⟩ = some (.int .u8 114) := ((hashAt hok 30 (by decide)).trans rfl); have d6 : w2.cell? ⟨g, 31, none⟩ = some (.int .u8 116) := ((hashAt hok 31 (by decide)).trans rfl); have d7 : w2.cell? ⟨g, 32, none⟩ = some (.int .u8 115) := ((hashAt hok 32 (by decide)).trans rfl); have p0 := (hb2.cell (p := ⟨b, off, none⟩) hb).trans c0; have p1 := (hb2.cell (p := ⟨b, off + 1, none⟩) hb).trans c1; have p2 := (hb2.cell (p := ⟨b, off + 2, none⟩) hb).trans c2; have p3 := (hb2.cell (p := ⟨b, off + 3, none⟩) hb).trans c3; have p4 := (hb2.cell (p := ⟨b, off + 4, none⟩) hb).trans c4; have p5 := (hb2.cell (p := ⟨b, off + 5, none⟩) hb).trans c5; have p6 := (hb2.cell (p := ⟨b, off + 6, none⟩) hb).trans c6; have p7 := (hb2.cell (p := ⟨b, off + 7, none⟩) hb).trans c7; clear hok)
  go_wp2
  refine wp_loop_rounds 9 ?_
  rw [rounds_succ]; go_wp2; go_quiet (fail); go_wp2
  rw [rounds_succ]; go_wp2; go_quiet (fail); go_wp2
  rw [rounds_succ]; go_wp2; go_quiet (fail); go_wp2
  rw [rounds_succ]; go_wp2; go_quiet (fail); go_wp2
  rw [rounds_succ]; go_wp2; go_quiet (fail); go_wp2
  rw [rounds_succ]; go_wp2; go_quiet (fail); go_wp2
  rw [rounds_succ]; go_wp2; go_quiet (fail); go_wp2
  rw [rounds_succ]; go_wp2; go_quiet (fail); go_wp2
  rw [rounds_succ]; go_wp2
  rw [Exit.noGoto_ret]
  go_ret
  exact ⟨rfl, hb2.os, hb2.tape, hb2.output, hb2.size, hb2.block⟩

set_option maxRecDepth 100000 in
set_option maxHeartbeats 4000000 in
theorem hash_document (w : World) (b off cap : Nat) (hL : Lies w b off [100, 111, 99, 117, 109, 101, 110, 116]) (hb : b < w.heap.size) (hT : HTab w) : Calls Tryz.prog 73 #[.slice (some ⟨b, off, none⟩) 8 cap] w (HPost w 8) := by
  have c0 : w.cell? ⟨b, off, none⟩ = some (.int .u8 100) := hL 0 (by decide)
  have c1 : w.cell? ⟨b, off + 1, none⟩ = some (.int .u8 111) := hL 1 (by decide)
  have c2 : w.cell? ⟨b, off + 2, none⟩ = some (.int .u8 99) := hL 2 (by decide)
  have c3 : w.cell? ⟨b, off + 3, none⟩ = some (.int .u8 117) := hL 3 (by decide)
  have c4 : w.cell? ⟨b, off + 4, none⟩ = some (.int .u8 109) := hL 4 (by decide)
  have c5 : w.cell? ⟨b, off + 5, none⟩ = some (.int .u8 101) := hL 5 (by decide)
  have c6 : w.cell? ⟨b, off + 6, none⟩ = some (.int .u8 110) := hL 6 (by decide)
  have c7 : w.cell? ⟨b, off + 7, none⟩ = some (.int .u8 116) := hL 7 (by decide)
  have x0 : bits BinOp.xor IntKind.u32 1525402570 100 = 1525402542 := by decide
  have m0 : IntKind.u32.wrap (1525402542 * 16777619) = 3476136682 := by decide
  have x1 : bits BinOp.xor IntKind.u32 3476136682 111 = 3476136581 := by decide
  have m1 : IntKind.u32.wrap (3476136581 * 16777619) = 2955073375 := by decide
  have x2 : bits BinOp.xor IntKind.u32 2955073375 99 = 2955073340 := by decide
  have m2 : IntKind.u32.wrap (2955073340 * 16777619) = 2195247988 := by decide
  have x3 : bits BinOp.xor IntKind.u32 2195247988 117 = 2195247873 := by decide
  have m3 : IntKind.u32.wrap (2195247873 * 16777619) = 4233374355 := by decide
  have x4 : bits BinOp.xor IntKind.u32 4233374355 109 = 4233374462 := by decide
  have m4 : IntKind.u32.wrap (4233374462 * 16777619) = 914337242 := by decide
  have x5 : bits BinOp.xor IntKind.u32 914337242 101 = 914337215 := by decide
  have m5 : IntKind.u32.wrap (914337215 * 16777619) = 2315158445 := by decide
  have x6 : bits BinOp.xor IntKind.u32 2315158445 110 = 2315158467 := by decide
  have m6 : IntKind.u32.wrap (2315158467 * 16777619) = 4272516089 := by decide
  have x7 : bits BinOp.xor IntKind.u32 4272516089 116 = 4272515981 := by decide
  have m7 : IntKind.u32.wrap (4272515981 * 16777619) = 1907642103 := by decide
  have a1 : bits BinOp.and IntKind.u32 1907642103 7 = 7 := by decide
  have t1 := hT.c7
  have a2 : bits BinOp.and IntKind.u32 8453 255 = 5 := by decide
  have a3 : bits BinOp.and IntKind.u32 29108 7 = 4 := by decide
  have t2 := hT.c4
  have a4 : bits BinOp.and IntKind.u32 8 255 = 8 := by decide
  clear hL hT
  go_enter Tryz.func73, Tryz.ntmps73
  go_wp2
  go_step3
  go_wp2
  refine wp_loop_rounds 9 ?_
  rw [rounds_succ]; go_wp2
  rw [rounds_succ]; go_wp2
  rw [rounds_succ]; go_wp2
  rw [rounds_succ]; go_wp2
  rw [rounds_succ]; go_wp2
  rw [rounds_succ]; go_wp2
  rw [rounds_succ]; go_wp2
  rw [rounds_succ]; go_wp2
  rw [rounds_succ]
  go_wp2
  go_step3
  --HIT
  go_upto_region 20 with (go_at_call 117; (with_reducible refine (hashText_any _).mono ?_); rintro e w2 ⟨g, rfl, hok, hb2⟩; have d0 : w2.cell? ⟨g, 0, none⟩ = some (.int .u8 100) := ((hashAt hok 0 (by decide)).trans rfl); have d1 : w2.cell? ⟨g, 1, none⟩ = some (.int .u8 111) := ((hashAt hok 1 (by decide)).trans rfl); have d2 : w2.cell? ⟨g, 2, none⟩ = some (.int .u8 99) := ((hashAt hok 2 (by decide)).trans rfl); have d3 : w2.cell? ⟨g, 3, none⟩ = some (.int .u8 117) := ((hashAt hok 3 (by decide)).trans rfl); have d4 : w2.cell? ⟨g, 4, none⟩ = some (.int .u8 109) := ((hashAt hok 4 (by decide)).trans rfl); have d5 : w2.cell? ⟨g, 5, none⟩ = some (.int .u8 101) := ((hashAt hok 5 (by decide)).trans rfl); have d6 : w2.cell? ⟨g, 6, none⟩ = some (.int .u8 110) := ((hashAt hok 6 (by decide)).trans rfl); have d7 : w2.cell? ⟨g, 7, none⟩ = some (.int .u8 116) := ((hashAt hok 7 (by decide)).trans rfl); have p0 := (hb2.cell (p := ⟨b, off, none⟩) hb).trans c0; have p1 := (hb2.cell (p := ⟨b, off + 1, none⟩) hb).trans c1; have p2 := (hb2.cell (p := ⟨b, off + 2, none⟩) hb).trans c2; have p3 := (hb2.cell (p := ⟨b, off + 3, none⟩) hb).trans c3; have p4 := (hb2.cell (p := ⟨b, off + 4, none⟩) hb).trans c4; have p5 := (hb2.cell (p := ⟨b, off + 5, none⟩) hb).trans c5; have p6 := (hb2.cell (p := ⟨b, off + 6, none⟩) hb).trans c6; have p7 := (hb2.cell (p := ⟨b, off + 7, none⟩) hb).trans c7; clear hok)
  go_wp2
  refine wp_loop_rounds 9 ?_
  rw [rounds_succ]; go_wp2; go_quiet (fail); go_wp2
  rw [rounds_succ]; go_wp2; go_quiet (fail); go_wp2
  rw [rounds_succ]; go_wp2; go_quiet (fail); go_wp2
  rw [rounds_succ]; go_wp2; go_quiet (fail); go_wp2
  rw [rounds_succ]; go_wp2; go_quiet (fail); go_wp2
  rw [rounds_succ]; go_wp2; go_quiet (fail); go_wp2
  rw [rounds_succ]; go_wp2; go_quiet (fail); go_wp2
  rw [rounds_succ]; go_wp2; go_quiet (fail); go_wp2
  rw [rounds_succ]; go_wp2
  rw [Exit.noGoto_ret]
  go_ret
  exact ⟨rfl, hb2.os, hb2.tape, hb2.output, hb2.size, hb2.block⟩

set_option maxRecDepth 100000 in
set_option maxHeartbeats 4000000 in
theorem hash_import (w : World) (b off cap : Nat) (hL : Lies w b off [105, 109, 112, 111, 114, 116]) (hb : b < w.heap.size) (hT : HTab w) : Calls Tryz.prog 73 #[.slice (some ⟨b, off, none⟩) 6 cap] w (HPost w 0) := by
  have c0 : w.cell? ⟨b, off, none⟩ = some (.int .u8 105) := hL 0 (by decide)
  have c1 : w.cell? ⟨b, off + 1, none⟩ = some (.int .u8 109) := hL 1 (by decide)
  have c2 : w.cell? ⟨b, off + 2, none⟩ = some (.int .u8 112) := hL 2 (by decide)
  have c3 : w.cell? ⟨b, off + 3, none⟩ = some (.int .u8 111) := hL 3 (by decide)
  have c4 : w.cell? ⟨b, off + 4, none⟩ = some (.int .u8 114) := hL 4 (by decide)
  have c5 : w.cell? ⟨b, off + 5, none⟩ = some (.int .u8 116) := hL 5 (by decide)
  have x0 : bits BinOp.xor IntKind.u32 1525402570 105 = 1525402531 := by decide
  have m0 : IntKind.u32.wrap (1525402531 * 16777619) = 3291582873 := by decide
  have x1 : bits BinOp.xor IntKind.u32 3291582873 109 = 3291582964 := by decide
  have m1 : IntKind.u32.wrap (3291582964 * 16777619) = 3456680732 := by decide
  have x2 : bits BinOp.xor IntKind.u32 3456680732 112 = 3456680812 := by decide
  have m2 : IntKind.u32.wrap (3456680812 * 16777619) = 3284902660 := by decide
  have x3 : bits BinOp.xor IntKind.u32 3284902660 111 = 3284902763 := by decide
  have m3 : IntKind.u32.wrap (3284902763 * 16777619) = 2761048433 := by decide
  have x4 : bits BinOp.xor IntKind.u32 2761048433 114 = 2761048323 := by decide
  have m4 : IntKind.u32.wrap (2761048323 * 16777619) = 356276153 := by decide
  have x5 : bits BinOp.xor IntKind.u32 356276153 116 = 356276173 := by decide
  have m5 : IntKind.u32.wrap (356276173 * 16777619) = 989738935 := by decide
  have a1 : bits BinOp.and IntKind.u32 989738935 7 = 7 := by decide
  have t1 := hT.c7
  have a2 : bits BinOp.and IntKind.u32 8453 255 = 5 := by decide
  have a3 : bits BinOp.and IntKind.u32 15102 7 = 6 := by decide
  have t2 := hT.c6
  have a4 : bits BinOp.and IntKind.u32 6408 255 = 8 := by decide
  clear hL hT
  go_enter Tryz.func73, Tryz.ntmps73
  go_wp2
  go_step3
  go_wp2
  refine wp_loop_rounds 7 ?_
  rw [rounds_succ]; go_wp2
  rw [rounds_succ]; go_wp2
  rw [rounds_succ]; go_wp2
  rw [rounds_succ]; go_wp2
  rw [rounds_succ]; go_wp2
  rw [rounds_succ]; go_wp2
  rw [rounds_succ]
  go_wp2
  go_step3
  go_wp2
  rw [Exit.noGoto_ret]
  go_ret
  exact ⟨rfl, Below.refl _ _⟩

set_option maxRecDepth 100000 in
set_option maxHeartbeats 4000000 in
theorem hash_charset (w : World) (b off cap : Nat) (hL : Lies w b off [99, 104, 97, 114, 115, 101, 116]) (hb : b < w.heap.size) (hT : HTab w) : Calls Tryz.prog 73 #[.slice (some ⟨b, off, none⟩) 7 cap] w (HPost w 0) := by
  have c0 : w.cell? ⟨b, off, none⟩ = some (.int .u8 99) := hL 0 (by decide)
  have c1 : w.cell? ⟨b, off + 1, none⟩ = some (.int .u8 104) := hL 1 (by decide)
  have c2 : w.cell? ⟨b, off + 2, none⟩ = some (.int .u8 97) := hL 2 (by decide)
  have c3 : w.cell? ⟨b, off + 3, none⟩ = some (.int .u8 114) := hL 3 (by decide)
  have c4 : w.cell? ⟨b, off + 4, none⟩ = some (.int .u8 115) := hL 4 (by decide)
  have c5 : w.cell? ⟨b, off + 5, none⟩ = some (.int .u8 101) := hL 5 (by decide)
  have c6 : w.cell? ⟨b, off + 6, none⟩ = some (.int .u8 116) := hL 6 (by decide)
  have x0 : bits BinOp.xor IntKind.u32 1525402570 99 = 1525402537 := by decide
  have m0 : IntKind.u32.wrap (1525402537 * 16777619) = 3392248587 := by decide
  have x1 : bits BinOp.xor IntKind.u32 3392248587 104 = 3392248675 := by decide
  have m1 : IntKind.u32.wrap (3392248675 * 16777619) = 2937560281 := by decide
  have x2 : bits BinOp.xor IntKind.u32 2937560281 97 = 2937560248 := by decide
  have m2 : IntKind.u32.wrap (2937560248 * 16777619) = 1512813992 := by decide
  have x3 : bits BinOp.xor IntKind.u32 1512813992 114 = 1512814042 := by decide
  have m3 : IntKind.u32.wrap (1512814042 * 16777619) = 3436135982 := by decide
  have x4 : bits BinOp.xor IntKind.u32 3436135982 115 = 3436136029 := by decide
  have m4 : IntKind.u32.wrap (3436136029 * 16777619) = 3343631463 := by decide
  have x5 : bits BinOp.xor IntKind.u32 3343631463 101 = 3343631362 := by decide
  have m5 : IntKind.u32.wrap (3343631362 * 16777619) = 3192229670 := by decide
  have x6 : bits BinOp.xor IntKind.u32 3192229670 116 = 3192229714 := by decide
  have m6 : IntKind.u32.wrap (3192229714 * 16777619) = 3649084950 := by decide
  have a1 : bits BinOp.and IntKind.u32 3649084950 7 = 6 := by decide
  have t1 := hT.c6
  have a2 : bits BinOp.and IntKind.u32 6408 255 = 8 := by decide
  have a3 : bits BinOp.and IntKind.u32 55680 7 = 0 := by decide
  have t2 := hT.c0
  have a4 : bits BinOp.and IntKind.u32 4361 255 = 9 := by decide
  clear hL hT
  go_enter Tryz.func73, Tryz.ntmps73
  go_wp2
  go_step3
  go_wp2
  refine wp_loop_rounds 8 ?_
  rw [rounds_succ]; go_wp2
  rw [rounds_succ]; go_wp2
  rw [rounds_succ]; go_wp2
  rw [rounds_succ]; go_wp2
  rw [rounds_succ]; go_wp2
  rw [rounds_succ]; go_wp2
  rw [rounds_succ]; go_wp2
  rw [rounds_succ]
  go_wp2
  go_step3
  go_wp2
  rw [Exit.noGoto_ret]
  go_ret
  exact ⟨rfl, Below.refl _ _⟩

set_option maxRecDepth 100000 in
set_option maxHeartbeats 4000000 in
theorem hash_namespace (w : World) (b off cap : Nat) (hL : Lies w b off [110, 97, 109, 101, 115, 112, 97, 99, 101]) (hb : b < w.heap.size) (hT : HTab w) : Calls Tryz.prog 73 #[.slice (some ⟨b, off, none⟩) 9 cap] w (HPost w 0) := by
  have c0 : w.cell? ⟨b, off, none⟩ = some (.int .u8 110) := hL 0 (by decide)
  have c1 : w.cell? ⟨b, off + 1, none⟩ = some (.int .u8 97) := hL 1 (by decide)
  have c2 : w.cell? ⟨b, off + 2, none⟩ = some (.int .u8 109) := hL 2 (by decide)
  have c3 : w.cell? ⟨b, off + 3, none⟩ = some (.int .u8 101) := hL 3 (by decide)
  have c4 : w.cell? ⟨b, off + 4, none⟩ = some (.int .u8 115) := hL 4 (by decide)
  have c5 : w.cell? ⟨b, off + 5, none⟩ = some (.int .u8 112) := hL 5 (by decide)
  have c6 : w.cell? ⟨b, off + 6, none⟩ = some (.int .u8 97) := hL 6 (by decide)
  have c7 : w.cell? ⟨b, off + 7, none⟩ = some (.int .u8 99) := hL 7 (by decide)
  have c8 : w.cell? ⟨b, off + 8, none⟩ = some (.int .u8 101) := hL 8 (by decide)
  have x0 : bits BinOp.xor IntKind.u32 1525402570 110 = 1525402532 := by decide
  have m0 : IntKind.u32.wrap (1525402532 * 16777619) = 3308360492 := by decide
  have x1 : bits BinOp.xor IntKind.u32 3308360492 97 = 3308360525 := by decide
  have m1 : IntKind.u32.wrap (3308360525 * 16777619) = 3121275447 := by decide
  have x2 : bits BinOp.xor IntKind.u32 3121275447 109 = 3121275482 := by decide
  have m2 : IntKind.u32.wrap (3121275482 * 16777619) = 958550958 := by decide
  have x3 : bits BinOp.xor IntKind.u32 958550958 101 = 958550987 := by decide
  have m3 : IntKind.u32.wrap (958550987 * 16777619) = 3154765969 := by decide
  have x4 : bits BinOp.xor IntKind.u32 3154765969 115 = 3154766050 := by decide
  have m4 : IntKind.u32.wrap (3154766050 * 16777619) = 3852049350 := by decide
  have x5 : bits BinOp.xor IntKind.u32 3852049350 112 = 3852049334 := by decide
  have m5 : IntKind.u32.wrap (3852049334 * 16777619) = 651173762 := by decide
  have x6 : bits BinOp.xor IntKind.u32 651173762 97 = 651173859 := by decide
  have m6 : IntKind.u32.wrap (651173859 * 16777619) = 4238488153 := by decide
  have x7 : bits BinOp.xor IntKind.u32 4238488153 99 = 4238488122 := by decide
  have m7 : IntKind.u32.wrap (4238488122 * 16777619) = 3981775182 := by decide
  have x8 : bits BinOp.xor IntKind.u32 3981775182 101 = 3981775147 := by decide
  have m8 : IntKind.u32.wrap (3981775147 * 16777619) = 3354003121 := by decide
  have a1 : bits BinOp.and IntKind.u32 3354003121 7 = 1 := by decide
  have t1 := hT.c1
  have a2 : bits BinOp.and IntKind.u32 11012 255 = 4 := by decide
  have a3 : bits BinOp.and IntKind.u32 51178 7 = 2 := by decide
  have t2 := hT.c2
  have a4 : bits BinOp.and IntKind.u32 9733 255 = 5 := by decide
  clear hL hT
  go_enter Tryz.func73, Tryz.ntmps73
  go_wp2
  go_step3
  go_wp2
  refine wp_loop_rounds 10 ?_
  rw [rounds_succ]; go_wp2
  rw [rounds_succ]; go_wp2
  rw [rounds_succ]; go_wp2
  rw [rounds_succ]; go_wp2
  rw [rounds_succ]; go_wp2
  rw [rounds_succ]; go_wp2
  rw [rounds_succ]; go_wp2
  rw [rounds_succ]; go_wp2
  rw [rounds_succ]; go_wp2
  rw [rounds_succ]
  go_wp2
  go_step3
  go_wp2
  rw [Exit.noGoto_ret]
  go_ret
  exact ⟨rfl, Below.refl _ _⟩
end Go.Proofs.YtlglijnaeaonpaaGreatDoor.Css
/- What the list of the rows gives: the library's tables, the name table, the end of a text; and a world for the witness. -/
namespace Go.Proofs.YtlglijnaeaonpaaGreatDoor.Css
open Go.RowKit Go.ChangeShapes Go.WideShapes Go.Deep Go.Lib

theorem own : ownKnob Tryz.prog.godebug = none := by kernel_rfl
theorem laidOut : laidOutB Tryz.prog = true := by kernel_rfl
theorem n0 : Tryz.prog.globalNamed "io.EOF" = some 0 := by kernel_rfl
theorem n1 : Tryz.prog.globalNamed "loop.example/pub-g01476/pub/tdcss._Hash_table" = some 1 := by kernel_rfl
theorem n2 : Tryz.prog.globalNamed "unicode/utf8.first" = some 2 := by kernel_rfl
theorem n3 : Tryz.prog.globalNamed "unicode/utf8.acceptRanges" = some 3 := by kernel_rfl
theorem g0 : (Tryz.prog.globals[0]?).map (·.type) = some 61 := by kernel_rfl
theorem g1 : (Tryz.prog.globals[1]?).map (·.type) = some 134 := by kernel_rfl
theorem g2 : (Tryz.prog.globals[2]?).map (·.type) = some 144 := by kernel_rfl
theorem g3 : (Tryz.prog.globals[3]?).map (·.type) = some 147 := by kernel_rfl
theorem cells121 : Tryz.prog.cellsOf 121 = 1 := by kernel_rfl
theorem cells134 : Tryz.prog.cellsOf 134 = 8 := by kernel_rfl
theorem cells144 : Tryz.prog.cellsOf 144 = 256 := by kernel_rfl
theorem cells146 : Tryz.prog.cellsOf 146 = 2 := by kernel_rfl
theorem cells147 : Tryz.prog.cellsOf 147 = 32 := by kernel_rfl
theorem cells212 : Tryz.prog.cellsOf 212 = 1 := by kernel_rfl
theorem star : "*" ++ "errors.errorString" = "*errors.errorString" := by decide
theorem row198 (u : TypeId) (h : Tryz.prog.typeName? 3 u = some "*errors.errorString") : u = 198 :=
  typeName_ptr_named (nm := "errors.errorString") (by rw [star]; kernel_rfl) (by kernel_rfl) (by decide) u (by rw [star]; exact h)

theorem tab_reads {W : World} {name : String} {k : IntKind} {zs : List Int} {g : Nat} {t e : TypeId} {n : Nat}
    (hg : Tryz.prog.globalNamed name = some g) (hty : (Tryz.prog.globals[g]?).map (·.type) = some t) (ht : Tryz.prog.underlying t = some (.array n e)) (he : Tryz.prog.underlying e = some (.int k)) (hce : Tryz.prog.cellsOf e = 1) (hct : Tryz.prog.cellsOf t = n)
    (h : VarReads Tryz.prog W name (tabData k zs)) : TabIs Tryz.prog W name k zs := by
  obtain ⟨g', t', cs, fuel, p, hg', ht', hvar, hd⟩ := h
  obtain rfl := Option.some.inj (hg.symm.trans hg')
  obtain rfl := Option.some.inj (hty.symm.trans ht')
  unfold TabIs
  rw [hvar, ← cells_of_tab ht he hce hct hd]
def hashZ : List Int := [4361, 11012, 9733, 2057, 8, 0, 6408, 8453]
theorem hash_is {W : World} (h : laidMet Tryz.prog Rows.fnStyleRow.laid W) : TabIs Tryz.prog W "loop.example/pub-g01476/pub/tdcss._Hash_table" .u32 hashZ :=
  tab_reads n1 g1 Tryz.underlying134 Tryz.underlying121 cells121 cells134 (laidMet.reads h (.tail _ (.tail _ (.tail _ (.tail _ (.tail _ (.tail _ (.head _))))))))
theorem hash_tab {W : World} (h : laidMet Tryz.prog Rows.fnStyleRow.laid W) : HTab W := by
  have k := hash_is h
  have c := fun i (hi : i < 8) => k.cell n1 i hi
  refine ⟨c 0 (by decide), c 1 (by decide), c 2 (by decide), c 3 (by decide), c 4 (by decide), c 5 (by decide), c 6 (by decide), c 7 (by decide), World.block_lt_of_cell? W ⟨1, 0, none⟩ (c 0 (by decide))⟩
theorem first_is {W : World} (h : laidMet Tryz.prog Rows.fnStyleRow.laid W) : TabIs Tryz.prog W "unicode/utf8.first" .u8 firstTab := by
  have k := laidMet.reads h (n := "unicode/utf8.first") (d := Rows.laid_unicode_utf8_first) (.tail _ (.tail _ (.tail _ (.tail _ (.tail _ (.tail _ (.tail _ (.head _))))))))
  have e : Rows.laid_unicode_utf8_first = firstData := Pinned.utf8First_eq
  rw [e] at k
  exact tab_reads n2 g2 Tryz.underlying144 Tryz.underlying5 cells5 cells144 k
theorem first_len : firstTab.length = 256 := by simp [firstTab]
theorem first_all : ((List.range 256).all fun i => [0xF0, 0xF1, 0x02, 0x13, 0x03, 0x23, 0x34, 0x04, 0x44].contains (firstTab.getD i 0)) = true := by decide +kernel
theorem accept_is {W : World} (h : laidMet Tryz.prog Rows.fnStyleRow.laid W) (i : Nat) (hi : i < 16) :
    W.cell? ⟨3, 2 * i, none⟩ = some (.int .u8 (accLo i)) ∧ W.cell? ⟨3, 2 * i + 1, none⟩ = some (.int .u8 (accHi i)) := by
  have k := laidMet.reads h (n := "unicode/utf8.acceptRanges") (d := Rows.laid_unicode_utf8_acceptRanges) (.tail _ (.tail _ (.tail _ (.head _))))
  have e : (Rows.laid_unicode_utf8_acceptRanges : DataW Unit) = acceptData := by kernel_rfl
  rw [e] at k
  obtain ⟨g, t, cs, fuel, p, hg, hty, hvar, hd⟩ := k
  obtain rfl := Option.some.inj (n3.symm.trans hg)
  obtain rfl := Option.some.inj (g3.symm.trans hty)
  obtain ⟨fuel', d, q, hdi, he⟩ := array_elem Tryz.underlying147 hd i hi
  simp only [List.getElem?_map, List.getElem?_range hi, Option.map_some, Option.some.injEq] at hdi
  subst hdi
  rw [cells146] at he
  have hcs := ints_of_struct Tryz.underlying146 (fun j f hj => by
    match j, hj with
    | 0, hj => simp at hj; subst hj; exact ⟨Tryz.underlying5, rfl, cells5⟩
    | 1, hj => simp at hj; subst hj; exact ⟨Tryz.underlying5, rfl, cells5⟩
    | j + 2, hj => simp at hj) (by rw [cells146]; rfl) he
  have e0 := congrArg (·[0]?) hcs
  have e1 := congrArg (·[1]?) hcs
  simp only [List.getElem?_take, List.getElem?_drop] at e0 e1
  constructor
  · rw [World.var?_cell hg hvar (2 * i), ← Array.getElem?_toList]
    simpa [Nat.mul_comm] using e0
  · rw [World.var?_cell hg hvar (2 * i + 1), ← Array.getElem?_toList]
    simpa [Nat.mul_comm] using e1
theorem acc_all : ((List.range 16).all fun i => decide (accLo i ≤ 255) && decide (accHi i ≤ 255)) = true := by decide +kernel
theorem u_tab {W : World} (h : laidMet Tryz.prog Rows.fnStyleRow.laid W) : Utab W := by
  have k := first_is h
  refine ⟨fun i hi => ⟨firstTab.getD i 0, ?_, k.cell n2 i (by rw [first_len]; exact hi)⟩, fun i hi => ?_, ?_⟩
  · have := List.all_eq_true.1 first_all i (List.mem_range.2 hi)
    simpa using this
  · have hb := List.all_eq_true.1 acc_all (i / 2) (List.mem_range.2 (by omega))
    simp only [Bool.and_eq_true, decide_eq_true_eq] at hb
    obtain ⟨c0, c1⟩ := accept_is h (i / 2) (by omega)
    rcases Nat.mod_two_eq_zero_or_one i with e | e
    · refine ⟨accLo (i / 2), by omega, by omega, ?_⟩
      have e2 : i = 2 * (i / 2) := by omega
      rw [← e2] at c0; exact c0
    · refine ⟨accHi (i / 2), by omega, by omega, ?_⟩
      have e2 : i = 2 * (i / 2) + 1 := by omega
      rw [← e2] at c1; exact c1
  · exact World.block_lt_of_cell? W ⟨3, 2 * 0, none⟩ (accept_is h 0 (by decide)).1
theorem eof_is {W : World} (h : laidMet Tryz.prog Rows.fnStyleRow.laid W) : ∃ a, W.cell? ⟨0, 0, none⟩ = some (.iface 198 (.pointer (some a))) := by
  have h4 : laidMet Tryz.prog (("io.EOF", .iface "*errors.errorString" (.ptr (.agg [.lit (.string [69, 79, 70])]))) :: [("unicode.properties", Rows.laid_unicode_properties), ("loop.example/pub-g01476/pub/tdcss._Hash_table", Rows.laid_loop_example_pub_g01476_pub_tdcss_Hash_table), ("unicode/utf8.first", Rows.laid_unicode_utf8_first)]) W :=
    laidMet.tail (laidMet.tail (laidMet.tail (laidMet.tail (x := ("math/bits.deBruijn32tab", Rows.laid_math_bits_deBruijn32tab)) h)))
  obtain ⟨a, s, hv, _⟩ := laid_sentinel h4 n0 g0 Tryz.underlying61 row198 Tryz.underlying198 Tryz.underlying212 rfl rfl Tryz.underlying9 cells212 cells9
  exact ⟨a, by simpa using World.var?_cell n0 hv 0⟩

end Go.Proofs.YtlglijnaeaonpaaGreatDoor.Css
