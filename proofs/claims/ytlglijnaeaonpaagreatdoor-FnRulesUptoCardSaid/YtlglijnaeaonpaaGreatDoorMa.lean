/- The lexer's memory: what the blocks of an Input and of a Lexer hold, and what the small methods of Input do. -/
import Derived.Test.YtlglijnaeaonpaaGreatDoorProg
import Derived.WalkKit
import Derived.WalkLawsBesides
import Derived.WalkSpells
import Derived.KernelRfl
import Derived.Deep.QuietTactic
import Derived.BigQuiet
import Derived.Deep.LoopGhost
import Derived.Deep.DeepCutAuto
import Derived.Deep.CutBlock
import Derived.Lib.Hide
set_option linter.all false
/- The lexer's memory: what the blocks of an Input and of a Lexer hold, and what the small methods of Input do. -/
namespace Go.Proofs.YtlglijnaeaonpaaGreatDoor.Css
open Go.RowKit

/-- All blocks that were there are as they were, but those of S. -/
structure Keep (S : Nat → Prop) (w0 w : World) : Prop where
  os : w.os = w0.os
  tape : w.tape = w0.tape
  output : w.output = w0.output
  size : w0.heap.size ≤ w.heap.size
  block : ∀ k, k < w0.heap.size → ¬ S k → w.heap[k]? = w0.heap[k]?

theorem Keep.refl (S : Nat → Prop) (w : World) : Keep S w w := ⟨rfl, rfl, rfl, Nat.le_refl _, fun _ _ _ => rfl⟩
theorem Keep.trans {S : Nat → Prop} {a b c : World} (h : Keep S a b) (k : Keep S b c) : Keep S a c :=
  ⟨k.os.trans h.os, k.tape.trans h.tape, k.output.trans h.output, Nat.le_trans h.size k.size, fun i hi hn => (k.block i (Nat.lt_of_lt_of_le hi h.size) hn).trans (h.block i hi hn)⟩
theorem Keep.mono {S T : Nat → Prop} {a b : World} (h : Keep S a b) (hs : ∀ k, k < a.heap.size → S k → T k) : Keep T a b :=
  ⟨h.os, h.tape, h.output, h.size, fun i hi hn => h.block i hi fun hk => hn (hs i hi hk)⟩
theorem Keep.drew {S : Nat → Prop} {a b : World} (h : Keep S a b) : Keep S a b.drew := ⟨h.os, h.tape, h.output, h.size, h.block⟩
theorem Keep.drewN {S : Nat → Prop} {a b : World} (h : Keep S a b) (n : Nat) : Keep S a (b.drewN n) := ⟨h.os, h.tape, h.output, h.size, h.block⟩
theorem Keep.alloc {S : Nat → Prop} {a b : World} (h : Keep S a b) (o : Obj) : Keep S a (b.alloc o) :=
  h.trans ⟨rfl, rfl, rfl, by simp, fun k hk _ => Below.heap_alloc _ _ _ hk⟩
theorem Keep.setCell {S : Nat → Prop} {a b : World} (h : Keep S a b) {p : Addr} (hp : S p.block ∨ a.heap.size ≤ p.block) (u : Value) : Keep S a (b.setCell p u) :=
  ⟨h.os, h.tape, h.output, by simpa using h.size, fun k hk hn => by
    rw [Below.heap_setCell _ _ _ _ (by rintro rfl; rcases hp with hp | hp; exact hn hp; omega)]; exact h.block k hk hn⟩
theorem Keep.cell {S : Nat → Prop} {w0 w : World} (h : Keep S w0 w) {p : Addr} (hp : p.block < w0.heap.size) (hn : ¬ S p.block) : w.cell? p = w0.cell? p :=
  World.cell?_of_block (w := w0) (h.block p.block hp hn)
theorem Keep.frozen {S : Nat → Prop} {w0 w : World} (h : Keep S w0 w) {p : Addr} (hp : p.block < w0.heap.size) (hn : ¬ S p.block) : w.frozen? p = w0.frozen? p :=
  World.frozen?_of_block (w := w0) (h.block p.block hp hn)

/-- The byte at a place of a text, 0 behind its end. -/
def byte (t : List UInt8) (i : Nat) : Int := ((t.getD i 0).toNat : Int)
theorem byte_lo (t : List UInt8) (i : Nat) : 0 ≤ byte t i := by unfold byte; omega
theorem byte_hi (t : List UInt8) (i : Nat) : byte t i ≤ 255 := by unfold byte; have := (t.getD i 0).toNat_lt; omega
theorem byte_end (t : List UInt8) (i : Nat) (h : t.length ≤ i) : byte t i = 0 := by
  unfold byte; rw [List.getD_eq_getElem?_getD, List.getElem?_eq_none h]; rfl

/-- What is fixed of a lexer: its block, its input's block, the text's block and offset, the capacity, the value of restore, the address of the end's error, the text. -/
structure Lx where
  l : Nat
  g : Nat
  b : Nat
  off : Nat
  cap : Nat
  rv : Value
  eof : Addr
  t : List UInt8

/-- The lexer stands at p, its selection begins at s; of what was there in w0 nothing but its own block has turned. -/
structure Lx.At (X : Lx) (w0 w : World) (p s : Nat) : Prop where
  lex : w.heap[X.l]? = some (.cells #[.pointer (some ⟨X.g, 0, none⟩)] 93 (0, 0))
  inp : w.heap[X.g]? = some (.cells #[.slice (some ⟨X.b, X.off, none⟩) (X.t.length + 1) X.cap, .int .i64 p, .int .i64 s, .nilIface, X.rv] 84 (0, 0))
  txt : ∀ i, i ≤ X.t.length → w.cell? ⟨X.b, X.off + i, none⟩ = some (.int .u8 (byte X.t i))
  io : w.cell? ⟨0, 0, none⟩ = some (.iface 198 (.pointer (some X.eof)))
  nb : X.b ≠ X.g
  nl : X.l ≠ X.g
  n0 : 0 ≠ X.g
  hg : X.g < w0.heap.size
  pl : p ≤ X.t.length
  sp : s ≤ p
  cp : X.t.length + 1 ≤ X.cap
  big : X.t.length + 1 ≤ 140737488351232
  keep : Keep (· = X.g) w0 w

theorem cell_at {w : World} {b : Nat} {cs : Array Value} {t : TypeId} {f : Nat × Nat} (h : w.heap[b]? = some (.cells cs t f)) (i : Nat) : w.cell? ⟨b, i, none⟩ = cs[i]? := by
  simp [World.cell?, h]

theorem frozen_at {w : World} {b : Nat} {cs : Array Value} {t : TypeId} (h : w.heap[b]? = some (.cells cs t (0, 0))) (i : Nat) : w.frozen? ⟨b, i, none⟩ = false := by
  simp [World.frozen?, h]

theorem heap_set {w : World} {b : Nat} {cs : Array Value} {t : TypeId} {f : Nat × Nat} (h : w.heap[b]? = some (.cells cs t f)) (i : Nat) (v : Value) :
    (w.setCell ⟨b, i, none⟩ v).heap[b]? = some (.cells (cs.setIfInBounds i v) t f) := by
  simp [World.setCell, Array.getElem?_modify, h]

namespace Lx.At
variable {X : Lx} {w0 w : World} {p s : Nat}
theorem c0 (h : X.At w0 w p s) : w.cell? ⟨X.l, 0, none⟩ = some (.pointer (some ⟨X.g, 0, none⟩)) := by rw [cell_at h.lex]; rfl
theorem i0 (h : X.At w0 w p s) : w.cell? ⟨X.g, 0, none⟩ = some (.slice (some ⟨X.b, X.off, none⟩) (X.t.length + 1) X.cap) := by rw [cell_at h.inp]; rfl
theorem i1 (h : X.At w0 w p s) : w.cell? ⟨X.g, 1, none⟩ = some (.int .i64 p) := by rw [cell_at h.inp]; rfl
theorem i2 (h : X.At w0 w p s) : w.cell? ⟨X.g, 2, none⟩ = some (.int .i64 s) := by rw [cell_at h.inp]; rfl
theorem i3 (h : X.At w0 w p s) : w.cell? ⟨X.g, 3, none⟩ = some .nilIface := by rw [cell_at h.inp]; rfl
theorem f (h : X.At w0 w p s) (i : Nat) : w.frozen? ⟨X.g, i, none⟩ = false := frozen_at h.inp i
theorem drew (h : X.At w0 w p s) : X.At w0 w.drew p s := { h with keep := h.keep.drew }
theorem drewN (h : X.At w0 w p s) (n : Nat) : X.At w0 (w.drewN n) p s := { h with keep := h.keep.drewN n }
theorem set1 (h : X.At w0 w p s) (q : Nat) (hq : q ≤ X.t.length) (hs : s ≤ q) : X.At w0 (w.setCell ⟨X.g, 1, none⟩ (.int .i64 q)) q s where
  lex := by rw [Below.heap_setCell _ _ _ _ h.nl]; exact h.lex
  inp := by rw [heap_set h.inp]; rfl
  txt := fun i hi => by rw [World.cell?_setCell_other]; exact h.txt i hi; intro e; exact h.nb (congrArg Addr.block e).symm
  io := by rw [World.cell?_setCell_other]; exact h.io; intro e; exact h.n0 (congrArg Addr.block e).symm
  nb := h.nb
  nl := h.nl
  n0 := h.n0
  hg := h.hg
  pl := hq
  sp := hs
  cp := h.cp
  big := h.big
  keep := h.keep.setCell (.inl rfl) _
theorem set2 (h : X.At w0 w p s) : X.At w0 (w.setCell ⟨X.g, 2, none⟩ (.int .i64 p)) p p where
  lex := by rw [Below.heap_setCell _ _ _ _ h.nl]; exact h.lex
  inp := by rw [heap_set h.inp]; rfl
  txt := fun i hi => by rw [World.cell?_setCell_other]; exact h.txt i hi; intro e; exact h.nb (congrArg Addr.block e).symm
  io := by rw [World.cell?_setCell_other]; exact h.io; intro e; exact h.n0 (congrArg Addr.block e).symm
  nb := h.nb
  nl := h.nl
  n0 := h.n0
  hg := h.hg
  pl := h.pl
  sp := Nat.le_refl _
  cp := h.cp
  big := h.big
  keep := h.keep.setCell (.inl rfl) _
end Lx.At

theorem ret_int {k : IntKind} {a b : Int} (h : a = b) : Ending.returned (.int k a) = .returned (.int k b) := by rw [h]

section
variable (X : Lx) (w0 w : World) (p s : Nat) (h : X.At w0 w p s)
include h

theorem peek_nat (k : Nat) (hk : p + k ≤ X.t.length) :
    Calls Tryz.prog 80 #[.pointer (some ⟨X.g, 0, none⟩), .int .i64 k] w fun e w' => e = .returned (.int .u8 (byte X.t (p + k))) ∧ w = w' := by
  have hc0 := h.i0
  have hc1 := h.i1
  have hb := h.big
  have hcp := h.cp
  have ht := h.txt (k + p) (by omega)
  go_enter Tryz.func80, Tryz.ntmps80
  go_wp2
  go_ret
  rw [Nat.add_comm p k]
  exact ⟨rfl, rfl⟩
theorem peek0 : Calls Tryz.prog 80 #[.pointer (some ⟨X.g, 0, none⟩), .int .i64 0] w fun e w' => e = .returned (.int .u8 (byte X.t p)) ∧ w = w' := by
  have := peek_nat X w0 w p s h 0 (by have := h.pl; omega)
  exact this
theorem peek1 (hk : p + 1 ≤ X.t.length) : Calls Tryz.prog 80 #[.pointer (some ⟨X.g, 0, none⟩), .int .i64 1] w fun e w' => e = .returned (.int .u8 (byte X.t (p + 1))) ∧ w = w' :=
  peek_nat X w0 w p s h 1 hk
theorem peek2 (hk : p + 2 ≤ X.t.length) : Calls Tryz.prog 80 #[.pointer (some ⟨X.g, 0, none⟩), .int .i64 2] w fun e w' => e = .returned (.int .u8 (byte X.t (p + 2))) ∧ w = w' :=
  peek_nat X w0 w p s h 2 hk

theorem move_nat (k : Nat) (hk : p + k ≤ X.t.length) :
    Calls Tryz.prog 58 #[.pointer (some ⟨X.g, 0, none⟩), .int .i64 k] w fun e w' => e = .returned (.tuple #[]) ∧ X.At w0 w' (p + k) s := by
  have hc1 := h.i1
  have hf := h.f
  have hb := h.big
  have hcp := h.cp
  have hs := h.sp
  go_enter Tryz.func58, Tryz.ntmps58
  go_wp2
  go_end0
  exact ⟨rfl, h.set1 (p + k) hk (by omega)⟩
theorem move1 (hk : p + 1 ≤ X.t.length) : Calls Tryz.prog 58 #[.pointer (some ⟨X.g, 0, none⟩), .int .i64 1] w fun e w' => e = .returned (.tuple #[]) ∧ X.At w0 w' (p + 1) s :=
  move_nat X w0 w p s h 1 hk
theorem move2 (hk : p + 2 ≤ X.t.length) : Calls Tryz.prog 58 #[.pointer (some ⟨X.g, 0, none⟩), .int .i64 2] w fun e w' => e = .returned (.tuple #[]) ∧ X.At w0 w' (p + 2) s :=
  move_nat X w0 w p s h 2 hk
theorem back1 (q : Nat) (hp : q + 1 = p) (hq : s ≤ q) : Calls Tryz.prog 58 #[.pointer (some ⟨X.g, 0, none⟩), .int .i64 (-1)] w fun e w' => e = .returned (.tuple #[]) ∧ X.At w0 w' q s := by
  have hc1 := h.i1
  have hf := h.f
  have hb := h.big
  have hcp := h.cp
  have hs := h.sp
  have hl := h.pl
  subst hp
  go_enter Tryz.func58, Tryz.ntmps58
  go_wp2
  go_end0
  have e : (q : Int) + 1 + -1 = (q : Int) := by omega
  refine ⟨rfl, ?_⟩
  rw [e]
  exact h.set1 q (by omega) hq

theorem pos_any : Calls Tryz.prog 97 #[.pointer (some ⟨X.g, 0, none⟩)] w fun e w' => e = .returned (.int .i64 ((p - s : Nat) : Int)) ∧ X.At w0 w' p s := by
  have hc1 := h.i1
  have hc2 := h.i2
  have hb := h.big
  have hcp := h.cp
  have hs := h.sp
  have hl := h.pl
  go_enter Tryz.func97, Tryz.ntmps97
  go_wp2
  go_quiet (fail)
  go_wp2
  go_ret
  exact ⟨ret_int (by omega), h.drewN _⟩
theorem rewind_any (m q : Nat) (hm : s + m = q) (hq : q ≤ X.t.length) :
    Calls Tryz.prog 119 #[.pointer (some ⟨X.g, 0, none⟩), .int .i64 m] w fun e w' => e = .returned (.tuple #[]) ∧ X.At w0 w' q s := by
  have hc1 := h.i1
  have hc2 := h.i2
  have hf := h.f
  have hb := h.big
  have hcp := h.cp
  have hs := h.sp
  have hl := h.pl
  subst hm
  go_enter Tryz.func119, Tryz.ntmps119
  go_wp2
  go_end0
  exact ⟨rfl, h.set1 (s + m) hq (by omega)⟩
theorem lexeme_any (hsp : s < p) : Calls Tryz.prog 100 #[.pointer (some ⟨X.g, 0, none⟩)] w fun e w' =>
    e = .returned (.slice (some ⟨X.b, X.off + s, none⟩) (p - s) (p - s)) ∧ X.At w0 w' p s := by
  have hc0 := h.i0
  have hc1 := h.i1
  have hc2 := h.i2
  have hb := h.big
  have hcp := h.cp
  have hs := h.sp
  have hl := h.pl
  go_enter Tryz.func100, Tryz.ntmps100
  go_wp2
  go_quiet (fail)
  go_wp2
  go_ret
  exact ⟨rfl, h.drewN _⟩
theorem shift_any (hsp : s < p) : Calls Tryz.prog 82 #[.pointer (some ⟨X.g, 0, none⟩)] w fun e w' =>
    e = .returned (.slice (some ⟨X.b, X.off + s, none⟩) (p - s) (p - s)) ∧ X.At w0 w' p p := by
  have hc0 := h.i0
  have hc1 := h.i1
  have hc2 := h.i2
  have hf := h.f
  have hb := h.big
  have hcp := h.cp
  have hl := h.pl
  go_enter Tryz.func82, Tryz.ntmps82
  go_wp2
  go_quiet (fail)
  go_wp2
  go_ret
  exact ⟨rfl, (h.drewN _).set2⟩
theorem peekErr_no (hp : p < X.t.length) : Calls Tryz.prog 102 #[.pointer (some ⟨X.g, 0, none⟩), .int .i64 0] w fun e w' =>
    e = .returned .nilIface ∧ X.At w0 w' p s := by
  have hc0 := h.i0
  have hc1 := h.i1
  have hc3 := h.i3
  have hb := h.big
  have hcp := h.cp
  go_enter Tryz.func102, Tryz.ntmps102
  go_wp2
  go_quiet (fail)
  go_wp2
  go_ret
  exact ⟨rfl, h.drewN _⟩
theorem peekErr_yes (hp : p = X.t.length) : Calls Tryz.prog 102 #[.pointer (some ⟨X.g, 0, none⟩), .int .i64 0] w fun e w' =>
    e = .returned (.iface 198 (.pointer (some X.eof))) ∧ X.At w0 w' p s := by
  have hc0 := h.i0
  have hc1 := h.i1
  have hc3 := h.i3
  have hio := h.io
  have hb := h.big
  have hcp := h.cp
  have hp' : X.t.length ≤ p := by omega
  have hl := h.pl
  clear hp
  go_enter Tryz.func102, Tryz.ntmps102
  go_wp2
  go_quiet (fail)
  go_wp2
  go_ret
  exact ⟨rfl, h.drewN _⟩
theorem err_no (hp : p < X.t.length) : Calls Tryz.prog 65 #[.pointer (some ⟨X.g, 0, none⟩)] w fun e w' =>
    e = .returned .nilIface ∧ X.At w0 w' p s := by
  go_enter Tryz.func65, Tryz.ntmps65
  go_wp2_with (go_at_call 102; refine (peekErr_no X w0 _ p s h hp).mono ?_; rintro e w' ⟨rfl, hA⟩)
  go_ret
  exact ⟨rfl, hA⟩
theorem err_yes (hp : p = X.t.length) : Calls Tryz.prog 65 #[.pointer (some ⟨X.g, 0, none⟩)] w fun e w' =>
    e = .returned (.iface 198 (.pointer (some X.eof))) ∧ X.At w0 w' p s := by
  go_enter Tryz.func65, Tryz.ntmps65
  go_wp2_with (go_at_call 102; refine (peekErr_yes X w0 _ p s h hp).mono ?_; rintro e w' ⟨rfl, hA⟩)
  go_ret
  exact ⟨rfl, hA⟩
end

end Go.Proofs.YtlglijnaeaonpaaGreatDoor.Css
/- The lexer's small readers: one byte of a class. -/
namespace Go.Proofs.YtlglijnaeaonpaaGreatDoor.Css
open Go.RowKit

def isWS (c : Int) : Bool := c == 32 || c == 9 || c == 10 || c == 13 || c == 12
def isDg (c : Int) : Bool := decide (48 ≤ c) && decide (c ≤ 57)
def isHx (c : Int) : Bool := (decide (48 ≤ c) && decide (c ≤ 57)) || (decide (97 ≤ c) && decide (c ≤ 102)) || (decide (65 ≤ c) && decide (c ≤ 70))
def isSt (c : Int) : Bool := (decide (97 ≤ c) && decide (c ≤ 122)) || (decide (65 ≤ c) && decide (c ≤ 90)) || c == 95 || decide (128 ≤ c)
def isNm (c : Int) : Bool := (decide (97 ≤ c) && decide (c ≤ 122)) || (decide (65 ≤ c) && decide (c ≤ 90)) || (decide (48 ≤ c) && decide (c ≤ 57)) || c == 95 || c == 45 || decide (128 ≤ c)

theorem isWS_yes {c : Int} (h : isWS c = true) : c = 32 ∨ c = 9 ∨ c = 10 ∨ c = 13 ∨ c = 12 := by simp [isWS] at h; omega
theorem isWS_no {c : Int} (h : isWS c = false) : c ≠ 32 ∧ c ≠ 9 ∧ c ≠ 10 ∧ c ≠ 13 ∧ c ≠ 12 := by simp [isWS] at h; omega
theorem isDg_yes {c : Int} (h : isDg c = true) : 48 ≤ c ∧ c ≤ 57 := by simp [isDg] at h; omega
theorem isDg_no {c : Int} (h : isDg c = false) : c < 48 ∨ 57 < c := by simp [isDg] at h; omega
theorem isHx_yes {c : Int} (h : isHx c = true) : (48 ≤ c ∧ c ≤ 57) ∨ (97 ≤ c ∧ c ≤ 102) ∨ (65 ≤ c ∧ c ≤ 70) := by simp [isHx] at h; omega
theorem isHx_no {c : Int} (h : isHx c = false) : ¬ ((48 ≤ c ∧ c ≤ 57) ∨ (97 ≤ c ∧ c ≤ 102) ∨ (65 ≤ c ∧ c ≤ 70)) := by simp [isHx] at h; omega
theorem isSt_yes {c : Int} (h : isSt c = true) : (97 ≤ c ∧ c ≤ 122) ∨ (65 ≤ c ∧ c ≤ 90) ∨ c = 95 ∨ 128 ≤ c := by simp [isSt] at h; omega
theorem isSt_no {c : Int} (h : isSt c = false) : ¬ ((97 ≤ c ∧ c ≤ 122) ∨ (65 ≤ c ∧ c ≤ 90) ∨ c = 95 ∨ 128 ≤ c) := by simp [isSt] at h; omega
theorem isNm_yes {c : Int} (h : isNm c = true) : (97 ≤ c ∧ c ≤ 122) ∨ (65 ≤ c ∧ c ≤ 90) ∨ (48 ≤ c ∧ c ≤ 57) ∨ c = 95 ∨ c = 45 ∨ 128 ≤ c := by simp [isNm] at h; omega
theorem isNm_no {c : Int} (h : isNm c = false) : ¬ ((97 ≤ c ∧ c ≤ 122) ∨ (65 ≤ c ∧ c ≤ 90) ∨ (48 ≤ c ∧ c ≤ 57) ∨ c = 95 ∨ c = 45 ∨ 128 ≤ c) := by simp [isNm] at h; omega
theorem isSt_nm {c : Int} (h : isSt c = true) : isNm c = true := by have := isSt_yes h; simp [isNm]; omega

theorem lt_of_byte {t : List UInt8} {p : Nat} (h : byte t p ≠ 0) : p < t.length := by
  rcases Nat.lt_or_ge p t.length with h' | h'
  · exact h'
  · exact absurd (byte_end _ _ h') h

section
variable (X : Lx) (w0 w : World) (p s : Nat) (h : X.At w0 w p s)
include h
theorem ws_yes (hc : isWS (byte X.t p) = true) : Calls Tryz.prog 81 #[.pointer (some ⟨X.l, 0, none⟩)] w fun e w' => e = .returned (.bool true) ∧ X.At w0 w' (p + 1) s := by
  replace hc := isWS_yes hc
  have hlt := lt_of_byte (t := X.t) (p := p) (by omega)
  have hl := h.c0
  go_enter Tryz.func81, Tryz.ntmps81
  go_wp2_with (first | (go_at_call 80; ((with_reducible refine ((peek0 X w0 _ _ _ (by assumption))).mono ?_); (rintro e w' ⟨rfl, rfl⟩))) | (go_at_call 58; ((with_reducible refine ((move1 X w0 _ _ _ (by assumption) (by omega))).mono ?_); (rintro e w' ⟨rfl, hA⟩))))
  all_goals first | (exfalso; omega) | (exfalso; simp_all; done) | (go_ret; exact ⟨rfl, by assumption⟩)
theorem ws_no (hc : isWS (byte X.t p) = false) : Calls Tryz.prog 81 #[.pointer (some ⟨X.l, 0, none⟩)] w fun e w' => e = .returned (.bool false) ∧ X.At w0 w' p s := by
  simp only [isWS, Bool.or_eq_false_iff] at hc
  obtain ⟨⟨⟨⟨h1, h2⟩, h3⟩, h4⟩, h5⟩ := hc
  have hl := h.c0
  go_enter Tryz.func81, Tryz.ntmps81
  go_wp2_with (first | (go_at_call 80; ((with_reducible refine ((peek0 X w0 _ _ _ (by assumption))).mono ?_); (rintro e w' ⟨rfl, rfl⟩))) | (go_at_call 58; ((with_reducible refine ((move1 X w0 _ _ _ (by assumption) (by omega))).mono ?_); (rintro e w' ⟨rfl, hA⟩))))
  all_goals first | (exfalso; omega) | (exfalso; simp_all; done) | (go_ret; exact ⟨rfl, by assumption⟩)
theorem dg_yes (hc : isDg (byte X.t p) = true) : Calls Tryz.prog 145 #[.pointer (some ⟨X.l, 0, none⟩)] w fun e w' => e = .returned (.bool true) ∧ X.At w0 w' (p + 1) s := by
  replace hc := isDg_yes hc
  have hlt := lt_of_byte (t := X.t) (p := p) (by omega)
  have hl := h.c0
  go_enter Tryz.func145, Tryz.ntmps145
  go_wp2_with (first | (go_at_call 80; ((with_reducible refine ((peek0 X w0 _ _ _ (by assumption))).mono ?_); (rintro e w' ⟨rfl, rfl⟩))) | (go_at_call 58; ((with_reducible refine ((move1 X w0 _ _ _ (by assumption) (by omega))).mono ?_); (rintro e w' ⟨rfl, hA⟩))))
  all_goals first | (exfalso; omega) | (exfalso; simp_all; done) | (go_ret; exact ⟨rfl, by assumption⟩)
theorem dg_no (hc : isDg (byte X.t p) = false) : Calls Tryz.prog 145 #[.pointer (some ⟨X.l, 0, none⟩)] w fun e w' => e = .returned (.bool false) ∧ X.At w0 w' p s := by
  replace hc := isDg_no hc
  have hl := h.c0
  go_enter Tryz.func145, Tryz.ntmps145
  go_wp2_with (first | (go_at_call 80; ((with_reducible refine ((peek0 X w0 _ _ _ (by assumption))).mono ?_); (rintro e w' ⟨rfl, rfl⟩))) | (go_at_call 58; ((with_reducible refine ((move1 X w0 _ _ _ (by assumption) (by omega))).mono ?_); (rintro e w' ⟨rfl, hA⟩))))
  all_goals first | (exfalso; omega) | (exfalso; simp_all; done) | (go_ret; exact ⟨rfl, by assumption⟩)
theorem hx_yes (hc : isHx (byte X.t p) = true) : Calls Tryz.prog 128 #[.pointer (some ⟨X.l, 0, none⟩)] w fun e w' => e = .returned (.bool true) ∧ X.At w0 w' (p + 1) s := by
  replace hc := isHx_yes hc
  have hlt := lt_of_byte (t := X.t) (p := p) (by omega)
  have hl := h.c0
  go_enter Tryz.func128, Tryz.ntmps128
  go_wp2_with (first | (go_at_call 80; ((with_reducible refine ((peek0 X w0 _ _ _ (by assumption))).mono ?_); (rintro e w' ⟨rfl, rfl⟩))) | (go_at_call 58; ((with_reducible refine ((move1 X w0 _ _ _ (by assumption) (by omega))).mono ?_); (rintro e w' ⟨rfl, hA⟩))))
  all_goals first | (exfalso; omega) | (exfalso; simp_all; done) | (go_ret; exact ⟨rfl, by assumption⟩)
theorem hx_no (hc : isHx (byte X.t p) = false) : Calls Tryz.prog 128 #[.pointer (some ⟨X.l, 0, none⟩)] w fun e w' => e = .returned (.bool false) ∧ X.At w0 w' p s := by
  replace hc := isHx_no hc
  have hl := h.c0
  go_enter Tryz.func128, Tryz.ntmps128
  go_wp2_with (first | (go_at_call 80; ((with_reducible refine ((peek0 X w0 _ _ _ (by assumption))).mono ?_); (rintro e w' ⟨rfl, rfl⟩))) | (go_at_call 58; ((with_reducible refine ((move1 X w0 _ _ _ (by assumption) (by omega))).mono ?_); (rintro e w' ⟨rfl, hA⟩))))
  all_goals first | (exfalso; omega) | (exfalso; simp_all; done) | (go_ret; exact ⟨rfl, by assumption⟩)
theorem cb_yes (c : Int) (h0 : c ≠ 0) (hc : byte X.t p = c) : Calls Tryz.prog 122 #[.pointer (some ⟨X.l, 0, none⟩), .int .u8 c] w fun e w' => e = .returned (.bool true) ∧ X.At w0 w' (p + 1) s := by
  subst hc
  have hlt := lt_of_byte (t := X.t) (p := p) h0
  have hl := h.c0
  clear h0
  go_enter Tryz.func122, Tryz.ntmps122
  go_wp2_with (first | (go_at_call 80; ((with_reducible refine ((peek0 X w0 _ _ _ (by assumption))).mono ?_); (rintro e w' ⟨rfl, rfl⟩))) | (go_at_call 58; ((with_reducible refine ((move1 X w0 _ _ _ (by assumption) (by omega))).mono ?_); (rintro e w' ⟨rfl, hA⟩))))
  all_goals first | (exfalso; omega) | (exfalso; simp_all; done) | (go_ret; exact ⟨rfl, by assumption⟩)
theorem cb_no (c : Int) (hc : (byte X.t p == c) = false) : Calls Tryz.prog 122 #[.pointer (some ⟨X.l, 0, none⟩), .int .u8 c] w fun e w' => e = .returned (.bool false) ∧ X.At w0 w' p s := by
  have hl := h.c0
  go_enter Tryz.func122, Tryz.ntmps122
  go_wp2_with (first | (go_at_call 80; ((with_reducible refine ((peek0 X w0 _ _ _ (by assumption))).mono ?_); (rintro e w' ⟨rfl, rfl⟩))) | (go_at_call 58; ((with_reducible refine ((move1 X w0 _ _ _ (by assumption) (by omega))).mono ?_); (rintro e w' ⟨rfl, hA⟩))))
  all_goals first | (exfalso; omega) | (exfalso; simp_all; done) | (go_ret; exact ⟨rfl, by assumption⟩)
end

end Go.Proofs.YtlglijnaeaonpaaGreatDoor.Css
/- The lexer's readers of names. -/
namespace Go.Proofs.YtlglijnaeaonpaaGreatDoor.Css
open Go.RowKit

/-- The first place from p on whose byte is not of a class. -/
def spanEnd (t : List UInt8) (f : Int → Bool) (p : Nat) : Nat :=
  if p < t.length then (if f (byte t p) then spanEnd t f (p + 1) else p) else p
termination_by t.length - p

theorem spanEnd_step {t : List UInt8} {f : Int → Bool} {p : Nat} (h0 : f 0 = false) (h : f (byte t p) = true) : spanEnd t f p = spanEnd t f (p + 1) := by
  have hlt : p < t.length := by
    rcases Nat.lt_or_ge p t.length with h' | h'
    · exact h'
    · rw [byte_end _ _ h', h0] at h; cases h
  rw [spanEnd, if_pos hlt, if_pos h]
theorem spanEnd_stop {t : List UInt8} {f : Int → Bool} {p : Nat} (h : f (byte t p) = false) : spanEnd t f p = p := by
  rw [spanEnd]; split
  · rw [if_neg (by simp [h])]
  · rfl
theorem lt_of_class {t : List UInt8} {f : Int → Bool} {p : Nat} (h0 : f 0 = false) (h : f (byte t p) = true) : p < t.length := by
  rcases Nat.lt_or_ge p t.length with h' | h'
  · exact h'
  · rw [byte_end _ _ h', h0] at h; cases h

/-- Where a reader of names that begins at p comes to, if the name's first letter would stand at p1: behind the name, or to p if there is none. -/
def nameEnd (t : List UInt8) (p p1 : Nat) : Nat := if isSt (byte t p1) then spanEnd t isNm (p1 + 1) else p
theorem nameEnd_yes {t : List UInt8} {p p1 : Nat} (h : isSt (byte t p1) = true) : nameEnd t p p1 = spanEnd t isNm (p1 + 1) := by rw [nameEnd, if_pos h]
theorem nameEnd_no {t : List UInt8} {p p1 : Nat} (h : isSt (byte t p1) = false) : nameEnd t p p1 = p := by rw [nameEnd, if_neg (by simp [h])]

/-- No backslash stands in the text. -/
def NoBs (t : List UInt8) : Prop := ∀ i, byte t i ≠ 92
theorem NoBs.a {t : List UInt8} (h : NoBs t) (i : Nat) : (byte t i == 92) = false := beq_eq_false_iff_ne.2 (h i)
theorem NoBs.b {t : List UInt8} (h : NoBs t) (i : Nat) : (byte t i != 92) = true := by simpa [bne] using h.a i

section
variable (X : Lx) (w0 w : World) (p s : Nat) (h : X.At w0 w p s) (hn : NoBs X.t)
include h hn
set_option maxRecDepth 100000 in
set_option maxHeartbeats 1000000 in
/-- A name is read where one begins, at p or behind one hyphen: at the place p1. -/
theorem id_any (p1 : Nat) (hp1 : ((byte X.t p == 45) = false ∧ p1 = p) ∨ ((byte X.t p == 45) = true ∧ (byte X.t (p + 1) == 45) = false ∧ p1 = p + 1)) :
    Calls Tryz.prog 123 #[.pointer (some ⟨X.l, 0, none⟩)] w fun e w' => e = .returned (.bool (isSt (byte X.t p1))) ∧ X.At w0 w' (nameEnd X.t p p1) s := by
  have hl := h.c0
  have hpl := h.pl
  have hsp := h.sp
  have HP := Lib.hid hp1
  clear hp1
  go_enter Tryz.func123, Tryz.ntmps123
  go_upto_if 17 with (first | (go_at_call 80; ((with_reducible refine ((peek0 X w0 _ _ _ (by assumption))).mono ?_); (rintro e w' ⟨rfl, rfl⟩))) | (go_at_call 97; ((with_reducible refine ((pos_any X w0 _ _ _ (by assumption))).mono ?_); (rintro e w' ⟨rfl, hA⟩); (have hl := Lx.At.c0 hA))))
  go_cut [4] (fun s4 wx => s4 = .bool false ∧ X.At w0 wx p1 s)
  case first =>
    rcases HP.out with ⟨h1, rfl⟩ | ⟨h1, h2, rfl⟩
    · go_wp2_with fail
      go_meet
      exact ⟨rfl, by assumption⟩
    · have hlt := lt_of_byte (t := X.t) (p := p) (by rw [beq_iff_eq.1 h1]; decide)
      go_wp2_with (first | (go_at_call 80; ((with_reducible refine ((peek0 X w0 _ _ _ (by assumption))).mono ?_); (rintro e w' ⟨rfl, rfl⟩))) | (go_at_call 58; ((with_reducible refine ((move1 X w0 _ _ _ (by assumption) (by omega))).mono ?_); (rintro e w' ⟨rfl, hA⟩); (have hl := Lx.At.c0 hA))))
      go_meet
      exact ⟨rfl, by assumption⟩
  case rest =>
  obtain ⟨rfl, hA⟩ := hcut
  have hl := Lx.At.c0 hA
  go_upto_region 10 with (first | (go_at_call 80; ((with_reducible refine ((peek0 X w0 _ _ _ (by assumption))).mono ?_); (rintro e w' ⟨rfl, rfl⟩))))
  go_cut [5, 63] (fun s5 s63 wx => (∃ c, s5 = .int .u8 c ∧ c = byte X.t p1) ∧ s63 = .bool (!isSt (byte X.t p1)) ∧ X.At w0 wx p1 s)
  case first =>
    go_wp2_with fail
    all_goals (go_meet; exact ⟨⟨_, rfl, by first | rfl | omega⟩, congrArg Value.bool (by rw [Bool.eq_iff_iff]; simp [isSt]; omega), by assumption⟩)
  case rest =>
    obtain ⟨⟨_, rfl, rfl⟩, rfl, hA⟩ := hcut
    have hl := Lx.At.c0 hA
    cases hc : isSt (byte X.t p1) with
    | false =>
      have b3 := hn.b p1
      have HC := Lib.hid hc
      clear hc
      go_wp2_with (first | (go_at_call 119; ((with_reducible refine (rewind_any X w0 _ _ _ (by assumption) (p - s) p (by omega) hpl).mono ?_); (rintro e w' ⟨rfl, hA⟩))))
      go_ret
      refine ⟨by rw [HC.out]; rfl, ?_⟩
      rw [nameEnd_no HC.out]
      assumption
    | true =>
    have hlt := lt_of_class (f := isSt) rfl hc
    have HC := Lib.hid hc
    clear hc
    go_wp2_with (first | (go_at_call 58; ((with_reducible refine ((move1 X w0 _ _ _ (by assumption) (by omega))).mono ?_); (rintro e w' ⟨rfl, hA⟩); (have hl := Lx.At.c0 hA))))
    go_loopg [] (X.t.length - (p1 + 1)) (fun k wr => ∃ q, p1 + 1 ≤ q ∧ q ≤ X.t.length ∧ k = X.t.length - q ∧ X.At w0 wr q s ∧ spanEnd X.t isNm q = spanEnd X.t isNm (p1 + 1))
    case atStart => exact ⟨p1 + 1, Nat.le_refl _, by omega, rfl, by assumption, rfl⟩
    case round =>
      obtain ⟨q, hq1, hq2, hk, hA, hE⟩ := hrel
      have hl := Lx.At.c0 hA
      have HE := Lib.hid hE
      clear hE
      go_upto_region 16 with (first | (go_at_call 80; ((with_reducible refine ((peek0 X w0 _ _ _ (by assumption))).mono ?_); (rintro e w' ⟨rfl, rfl⟩))))
      go_cut [6, 121] (fun s6 s121 wx => (∃ c, s6 = .int .u8 c ∧ c = byte X.t q) ∧ s121 = .bool (!isNm (byte X.t q)) ∧ X.At w0 wx q s)
      case first =>
        go_wp2_with fail
        all_goals (go_meet; exact ⟨⟨_, rfl, by first | rfl | omega⟩, congrArg Value.bool (by rw [Bool.eq_iff_iff]; simp [isNm]; omega), by assumption⟩)
      case rest =>
        obtain ⟨⟨_, rfl, rfl⟩, rfl, hA⟩ := hcut
        have hl := Lx.At.c0 hA
        cases hq : isNm (byte X.t q) with
        | true =>
          have hlq := lt_of_class (f := isNm) rfl hq
          have HS := Lib.hid (spanEnd_step (f := isNm) rfl hq)
          clear hq
          go_wp2_with (first | (go_at_call 58; ((with_reducible refine ((move1 X w0 _ _ _ (by assumption) (by omega))).mono ?_); (rintro e w' ⟨rfl, hA⟩); (have hl := Lx.At.c0 hA))))
          go_roundg (X.t.length - (q + 1))
          case measure => omega
          case rel => exact ⟨q + 1, by omega, by omega, rfl, by assumption, HS.out.symm.trans HE.out⟩
        | false =>
          have HS := Lib.hid (spanEnd_stop (f := isNm) hq)
          clear hq
          have b3 := hn.b q
          go_wp2_with fail
          go_ret
          refine ⟨by rw [HC.out]; rfl, ?_⟩
          rw [nameEnd_yes HC.out, ← HE.out, HS.out]
          assumption
end

end Go.Proofs.YtlglijnaeaonpaaGreatDoor.Css
/- The lexer's readers of numbers. -/
namespace Go.Proofs.YtlglijnaeaonpaaGreatDoor.Css
open Go.RowKit

theorem spanEnd_ge (t : List UInt8) (f : Int → Bool) (p : Nat) : p ≤ spanEnd t f p := by
  rw [spanEnd]; split
  · split
    · have := spanEnd_ge t f (p + 1); omega
    · exact Nat.le_refl _
  · exact Nat.le_refl _
termination_by t.length - p
theorem spanEnd_le (t : List UInt8) (f : Int → Bool) (p : Nat) (h : p ≤ t.length) : spanEnd t f p ≤ t.length := by
  rw [spanEnd]; split
  · split
    · exact spanEnd_le t f (p + 1) (by omega)
    · exact h
  · exact h
termination_by t.length - p

/-- Behind a sign, if one stands at p. -/
def signEnd (t : List UInt8) (p : Nat) : Nat := if byte t p == 43 || byte t p == 45 then p + 1 else p
/-- Where digits with a point, or a point and digits, end. -/
def fracEnd (t : List UInt8) (p : Nat) : Option Nat :=
  if isDg (byte t p) then
    (if byte t (spanEnd t isDg p) == 46 && isDg (byte t (spanEnd t isDg p + 1)) then some (spanEnd t isDg (spanEnd t isDg p + 1)) else some (spanEnd t isDg p))
  else (if byte t p == 46 && isDg (byte t (p + 1)) then some (spanEnd t isDg (p + 1)) else none)
/-- Where the exponent ends that begins at p, p itself if none does. -/
def expEnd (t : List UInt8) (p : Nat) : Nat :=
  if byte t p == 101 || byte t p == 69 then
    (if isDg (byte t (signEnd t (p + 1))) then spanEnd t isDg (signEnd t (p + 1)) else p)
  else p

/-- A digit's place behind it. -/
def dgEnd (t : List UInt8) (p : Nat) : Nat := if isDg (byte t p) then p + 1 else p
theorem dgEnd_yes {t : List UInt8} {p : Nat} (h : isDg (byte t p) = true) : dgEnd t p = p + 1 := by rw [dgEnd, if_pos h]
theorem dgEnd_no {t : List UInt8} {p : Nat} (h : isDg (byte t p) = false) : dgEnd t p = p := by rw [dgEnd, if_neg (by simp [h])]

theorem signEnd_le {t : List UInt8} {p : Nat} (h : p ≤ t.length) : signEnd t p ≤ t.length := by
  unfold signEnd; split
  · rename_i h'
    have : byte t p ≠ 0 := by intro e; rw [e] at h'; exact absurd h' (by decide)
    exact lt_of_byte this
  · exact h

section
variable (X : Lx) (w0 w : World) (p s : Nat) (h : X.At w0 w p s)
include h
set_option maxRecDepth 100000 in
set_option maxHeartbeats 1000000 in
theorem num_yes (p3 : Nat) (hf : fracEnd X.t (signEnd X.t p) = some p3) :
    Calls Tryz.prog 121 #[.pointer (some ⟨X.l, 0, none⟩)] w fun e w' => e = .returned (.bool true) ∧ X.At w0 w' (expEnd X.t p3) s := by
  have hl := h.c0
  have hpl := h.pl
  have hsp := h.sp
  obtain ⟨p1, HP1⟩ : ∃ p1, Hid (signEnd X.t p = p1) := ⟨_, rfl⟩
  have hp1 : p1 ≤ X.t.length := HP1.out ▸ signEnd_le hpl
  have hp1' : p ≤ p1 := by rw [← HP1.out]; unfold signEnd; split <;> omega
  have HF := Lib.hid hf
  clear hf
  rw [HP1.out] at HF
  go_enter Tryz.func121, Tryz.ntmps121
  go_upto_region 3 with (first | (go_at_call 80; ((with_reducible refine ((peek0 X w0 _ _ _ (by assumption))).mono ?_); (rintro e w' ⟨rfl, rfl⟩))) | (go_at_call 97; ((with_reducible refine ((pos_any X w0 _ _ _ (by assumption))).mono ?_); (rintro e w' ⟨rfl, hA⟩); (have hl := Lx.At.c0 hA))))
  go_cut [3, 4, 21] (fun _ _ s21 wx => s21 = .bool (byte X.t p == 43 || byte X.t p == 45) ∧ X.At w0 wx p s)
  case first =>
    go_wp2_with fail
    all_goals (go_meet; exact ⟨congrArg Value.bool (by first | rfl | (rw [Bool.eq_iff_iff]; simp; omega)), by assumption⟩)
  case rest =>
  obtain ⟨rfl, hA⟩ := hcut
  have hl := Lx.At.c0 hA
  go_upto_if 21 with fail
  go_cut [] (fun wx => X.At w0 wx p1 s)
  case first =>
    cases hs : (byte X.t p == 43 || byte X.t p == 45) with
    | true =>
      have e : p1 = p + 1 := by rw [← HP1.out, signEnd, if_pos hs]
      subst e
      clear hs
      go_wp2_with (first | (go_at_call 58; ((with_reducible refine ((move1 X w0 _ _ _ (by assumption) (by omega))).mono ?_); (rintro e w' ⟨rfl, hA⟩); (have hl := Lx.At.c0 hA))))
      go_meet
      assumption
    | false =>
      have e : p1 = p := by rw [← HP1.out, signEnd, if_neg (by simp [hs])]
      subst e
      clear hs
      go_wp2_with fail
      go_meet
      assumption
  case rest =>
  have hA := hcut
  have hl := Lx.At.c0 hA
  clear hcut HP1
  go_upto_region 5 with fail
  go_cut [5] (fun s5 wx => s5 = .bool (isDg (byte X.t p1)) ∧ X.At w0 wx (dgEnd X.t p1) s)
  case first =>
    cases hd : isDg (byte X.t p1) with
    | true =>
      go_wp2_with (first | (go_at_call 145; ((with_reducible refine ((dg_yes X w0 _ _ _ (by assumption) (by assumption))).mono ?_); (rintro e w' ⟨rfl, hA⟩); (have hl := Lx.At.c0 hA))))
      go_meet
      exact ⟨by rw [hd], by rw [dgEnd_yes hd]; assumption⟩
    | false =>
      go_wp2_with (first | (go_at_call 145; ((with_reducible refine ((dg_no X w0 _ _ _ (by assumption) (by assumption))).mono ?_); (rintro e w' ⟨rfl, hA⟩); (have hl := Lx.At.c0 hA))))
      go_meet
      exact ⟨by rw [hd], by rw [dgEnd_no hd]; assumption⟩
  case rest =>
  obtain ⟨rfl, hA⟩ := hcut
  have hl := Lx.At.c0 hA
  go_upto_if 29 with fail
  go_cut [5, 29] (fun s5 _ wx => s5 = .bool (isDg (byte X.t p1)) ∧ X.At w0 wx (spanEnd X.t isDg p1) s)
  case first =>
    cases hd : isDg (byte X.t p1) with
    | true =>
      have hA1 := hA
      rw [dgEnd_yes hd] at hA1
      have hlt := lt_of_class (f := isDg) rfl hd
      have HD := Lib.hid (spanEnd_step (f := isDg) rfl hd)
      have HDD := Lib.hid hd
      clear hd hA
      go_wp2_with fail
      go_loopg [] (X.t.length - (p1 + 1)) (fun k  wr => ∃ q, p1 + 1 ≤ q ∧ q ≤ X.t.length ∧ k = X.t.length - q ∧ X.At w0 wr q s ∧ spanEnd X.t isDg q = spanEnd X.t isDg (p1 + 1))
      case atStart => exact ⟨p1 + 1, Nat.le_refl _, by omega, rfl, by assumption, rfl⟩
      case round =>
        obtain ⟨q, hq1, hq2, hk, hA, hE⟩ := hrel
        have hl := Lx.At.c0 hA
        have HE := Lib.hid hE
        clear hE
        cases hq : isDg (byte X.t q) with
        | true =>
          have hlq := lt_of_class (f := isDg) rfl hq
          have HS := Lib.hid (spanEnd_step (f := isDg) rfl hq)
          go_wp2_with (first | (go_at_call 145; ((with_reducible refine ((dg_yes X w0 _ _ _ (by assumption) (by assumption))).mono ?_); (rintro e w' ⟨rfl, hA⟩); (have hl := Lx.At.c0 hA))))
          go_roundg (X.t.length - (q + 1))
          case measure => omega
          case rel => exact ⟨q + 1, by omega, by omega, rfl, by assumption, HS.out.symm.trans HE.out⟩
        | false =>
          have HS := Lib.hid (spanEnd_stop (f := isDg) hq)
          go_wp2_with (first | (go_at_call 145; ((with_reducible refine ((dg_no X w0 _ _ _ (by assumption) (by assumption))).mono ?_); (rintro e w' ⟨rfl, hA⟩); (have hl := Lx.At.c0 hA))))
          have hA' := hA
          rw [← HS.out, HE.out] at hA'
          (go_meet; exact ⟨by rw [HDD.out], by rw [HD.out]; exact hA'⟩)
    | false =>
      have hA1 := hA
      rw [dgEnd_no hd, ← spanEnd_stop hd] at hA1
      have HDD := Lib.hid hd
      clear hd hA
      go_wp2_with fail
      go_meet
      exact ⟨by rw [HDD.out], by assumption⟩
  case rest =>
  obtain ⟨rfl, hA⟩ := hcut
  have hl := Lx.At.c0 hA
  have hge := spanEnd_ge X.t isDg p1
  have hle := spanEnd_le X.t isDg p1 hp1
  go_upto_if 37 with (first | (go_at_call 80; ((with_reducible refine ((peek0 X w0 _ _ _ (by assumption))).mono ?_); (rintro e w' ⟨rfl, rfl⟩))))
  go_cut [5] (fun _ wx => X.At w0 wx p3 s)
  case first =>
    cases hd : isDg (byte X.t p1) with
    | true =>
      cases hdot : (byte X.t (spanEnd X.t isDg p1) == 46) with
      | true =>
        have hlt : spanEnd X.t isDg p1 < X.t.length := lt_of_byte (by rw [beq_iff_eq.1 hdot]; decide)
        have h46 : byte X.t (spanEnd X.t isDg p1) = 46 := beq_iff_eq.1 hdot
        cases hd2 : isDg (byte X.t (spanEnd X.t isDg p1 + 1)) with
        | true =>
          have e : spanEnd X.t isDg (spanEnd X.t isDg p1 + 1 + 1) = p3 := by
            have := HF.out
            simp only [fracEnd, hd, hdot, hd2, Bool.and_self, if_true, Option.some.injEq] at this
            rw [← spanEnd_step (f := isDg) rfl hd2]; exact this
          have hlt2 := lt_of_class (f := isDg) rfl hd2
          obtain ⟨a, ha⟩ : ∃ a, a = spanEnd X.t isDg p1 := ⟨_, rfl⟩
          rw [← ha] at hA hdot hd2 e hlt hlt2 hge hle
          have HE3 := Lib.hid e
          clear e ha h46
          go_wp2_with (first | (go_at_call 58; ((with_reducible refine ((move1 X w0 _ _ _ (by assumption) (by omega))).mono ?_); (rintro e w' ⟨rfl, hA⟩); (have hl := Lx.At.c0 hA))) | (go_at_call 145; ((with_reducible refine ((dg_yes X w0 _ _ _ (by assumption) (by assumption))).mono ?_); (rintro e w' ⟨rfl, hA⟩); (have hl := Lx.At.c0 hA))))
          clear hd2
          go_loopg [] (X.t.length - (a + 1 + 1)) (fun k  wr => ∃ q, a + 1 + 1 ≤ q ∧ q ≤ X.t.length ∧ k = X.t.length - q ∧ X.At w0 wr q s ∧ spanEnd X.t isDg q = spanEnd X.t isDg (a + 1 + 1))
          case atStart => exact ⟨a + 1 + 1, Nat.le_refl _, by omega, rfl, by assumption, rfl⟩
          case round =>
            obtain ⟨q, hq1, hq2, hk, hA, hE⟩ := hrel
            have hl := Lx.At.c0 hA
            have HE := Lib.hid hE
            clear hE
            cases hq : isDg (byte X.t q) with
            | true =>
              have hlq := lt_of_class (f := isDg) rfl hq
              have HS := Lib.hid (spanEnd_step (f := isDg) rfl hq)
              go_wp2_with (first | (go_at_call 145; ((with_reducible refine ((dg_yes X w0 _ _ _ (by assumption) (by assumption))).mono ?_); (rintro e w' ⟨rfl, hA⟩); (have hl := Lx.At.c0 hA))))
              go_roundg (X.t.length - (q + 1))
              case measure => omega
              case rel => exact ⟨q + 1, by omega, by omega, rfl, by assumption, HS.out.symm.trans HE.out⟩
            | false =>
              have HS := Lib.hid (spanEnd_stop (f := isDg) hq)
              go_wp2_with (first | (go_at_call 145; ((with_reducible refine ((dg_no X w0 _ _ _ (by assumption) (by assumption))).mono ?_); (rintro e w' ⟨rfl, hA⟩); (have hl := Lx.At.c0 hA))))
              have hA' := hA
              rw [← HS.out, HE.out] at hA'
              (go_meet; rw [← HE3.out]; exact hA')
        | false =>
          have e : spanEnd X.t isDg p1 = p3 := by
            have := HF.out
            simp only [fracEnd, hd, hdot, hd2, Bool.and_false, if_true] at this
            simpa using this
          obtain ⟨a, ha⟩ : ∃ a, a = spanEnd X.t isDg p1 := ⟨_, rfl⟩
          rw [← ha] at hA hdot hd2 e hlt hge hle h46
          subst e
          have HX : Hid (expEnd X.t a = a) := by rw [expEnd, h46]; rfl
          clear ha h46
          go_wp2_with (first | (go_at_call 58; ((with_reducible refine ((move1 X w0 _ _ _ (by assumption) (by omega))).mono ?_); (rintro e w' ⟨rfl, hA⟩); (have hl := Lx.At.c0 hA))) | (go_at_call 145; ((with_reducible refine ((dg_no X w0 _ _ _ (by assumption) (by assumption))).mono ?_); (rintro e w' ⟨rfl, hA⟩); (have hl := Lx.At.c0 hA))) | (go_at_call 58; ((with_reducible refine ((back1 X w0 _ _ _ (by assumption) _ rfl (by omega))).mono ?_); (rintro e w' ⟨rfl, hA⟩); (have hl := Lx.At.c0 hA))))
          go_ret
          exact ⟨rfl, by rw [HX.out]; assumption⟩
      | false =>
        have e : spanEnd X.t isDg p1 = p3 := by
          have := HF.out
          simp only [fracEnd, hd, hdot, Bool.false_and, if_true] at this
          simpa using this
        rw [e] at hdot
        clear hge hle
        rw [e] at hA
        go_wp2_with fail
        go_meet
        assumption
    | false =>
      have e0 : spanEnd X.t isDg p1 = p1 := spanEnd_stop hd
      have hdot : (byte X.t p1 == 46) = true := by
        cases hdot : (byte X.t p1 == 46) with
        | true => rfl
        | false => have := HF.out; simp [fracEnd, hd, hdot] at this
      have hd2 : isDg (byte X.t (p1 + 1)) = true := by
        cases hd2 : isDg (byte X.t (p1 + 1)) with
        | true => rfl
        | false => have := HF.out; simp [fracEnd, hd, hd2] at this
      have e : spanEnd X.t isDg (p1 + 1 + 1) = p3 := by
        have := HF.out
        simp only [fracEnd, hd, hdot, hd2, Bool.and_self, if_true, Option.some.injEq, Bool.false_eq_true, if_false] at this
        rw [← spanEnd_step (f := isDg) rfl hd2]; exact this
      have hlt : p1 < X.t.length := lt_of_byte (by rw [beq_iff_eq.1 hdot]; decide)
      have hlt2 := lt_of_class (f := isDg) rfl hd2
      rw [e0] at hA hge hle
      have HE3 := Lib.hid e
      rw [e0]
      clear e e0
      go_wp2_with (first | (go_at_call 58; ((with_reducible refine ((move1 X w0 _ _ _ (by assumption) (by omega))).mono ?_); (rintro e w' ⟨rfl, hA⟩); (have hl := Lx.At.c0 hA))) | (go_at_call 145; ((with_reducible refine ((dg_yes X w0 _ _ _ (by assumption) (by assumption))).mono ?_); (rintro e w' ⟨rfl, hA⟩); (have hl := Lx.At.c0 hA))))
      clear hd2
      go_loopg [] (X.t.length - (p1 + 1 + 1)) (fun k  wr => ∃ q, p1 + 1 + 1 ≤ q ∧ q ≤ X.t.length ∧ k = X.t.length - q ∧ X.At w0 wr q s ∧ spanEnd X.t isDg q = spanEnd X.t isDg (p1 + 1 + 1))
      case atStart => exact ⟨p1 + 1 + 1, Nat.le_refl _, by omega, rfl, by assumption, rfl⟩
      case round =>
        obtain ⟨q, hq1, hq2, hk, hA, hE⟩ := hrel
        have hl := Lx.At.c0 hA
        have HE := Lib.hid hE
        clear hE
        cases hq : isDg (byte X.t q) with
        | true =>
          have hlq := lt_of_class (f := isDg) rfl hq
          have HS := Lib.hid (spanEnd_step (f := isDg) rfl hq)
          go_wp2_with (first | (go_at_call 145; ((with_reducible refine ((dg_yes X w0 _ _ _ (by assumption) (by assumption))).mono ?_); (rintro e w' ⟨rfl, hA⟩); (have hl := Lx.At.c0 hA))))
          go_roundg (X.t.length - (q + 1))
          case measure => omega
          case rel => exact ⟨q + 1, by omega, by omega, rfl, by assumption, HS.out.symm.trans HE.out⟩
        | false =>
          have HS := Lib.hid (spanEnd_stop (f := isDg) hq)
          go_wp2_with (first | (go_at_call 145; ((with_reducible refine ((dg_no X w0 _ _ _ (by assumption) (by assumption))).mono ?_); (rintro e w' ⟨rfl, hA⟩); (have hl := Lx.At.c0 hA))))
          have hA' := hA
          rw [← HS.out, HE.out] at hA'
          (go_meet; rw [← HE3.out]; exact hA')
  case rest =>
  have hA := hcut
  have hl := Lx.At.c0 hA
  clear hcut HF hge hle
  have hp3 := hA.pl
  have hsp3 := hA.sp
  go_upto_region 22 with (first | (go_at_call 97; ((with_reducible refine ((pos_any X w0 _ _ _ (by assumption))).mono ?_); (rintro e w' ⟨rfl, hA⟩); (have hl := Lx.At.c0 hA))) | (go_at_call 80; ((with_reducible refine ((peek0 X w0 _ _ _ (by assumption))).mono ?_); (rintro e w' ⟨rfl, rfl⟩))))
  go_cut [4, 82] (fun _ s82 wx => s82 = .bool (byte X.t p3 == 101 || byte X.t p3 == 69) ∧ X.At w0 wx p3 s)
  case first =>
    go_wp2_with fail
    all_goals (go_meet; exact ⟨congrArg Value.bool (by first | rfl | (rw [Bool.eq_iff_iff]; simp; omega)), by assumption⟩)
  case rest =>
  obtain ⟨rfl, hA⟩ := hcut
  have hl := Lx.At.c0 hA
  cases he : (byte X.t p3 == 101 || byte X.t p3 == 69) with
  | false =>
    have HX : Hid (expEnd X.t p3 = p3) := by unfold Hid expEnd; rw [if_neg (by simp [he])]
    clear he
    go_wp2_with fail
    go_ret
    exact ⟨rfl, by rw [HX.out]; assumption⟩
  | true =>
    have hlt : p3 < X.t.length := lt_of_byte (by intro e; rw [e] at he; exact absurd he (by decide))
    obtain ⟨p4, HP4⟩ : ∃ p4, Hid (signEnd X.t (p3 + 1) = p4) := ⟨_, rfl⟩
    have hp4 : p4 ≤ X.t.length := HP4.out ▸ signEnd_le hlt
    have hp4' : p3 + 1 ≤ p4 := by rw [← HP4.out]; unfold signEnd; split <;> omega
    have HX : Hid (expEnd X.t p3 = if isDg (byte X.t p4) then spanEnd X.t isDg p4 else p3) := by unfold Hid expEnd; rw [if_pos he, HP4.out]
    clear he
    go_upto_region 25 with (first | (go_at_call 58; ((with_reducible refine ((move1 X w0 _ _ _ (by assumption) (by omega))).mono ?_); (rintro e w' ⟨rfl, hA⟩); (have hl := Lx.At.c0 hA))) | (go_at_call 80; ((with_reducible refine ((peek0 X w0 _ _ _ (by assumption))).mono ?_); (rintro e w' ⟨rfl, rfl⟩))))
    go_cut [4, 98] (fun _ s98 wx => s98 = .bool (byte X.t (p3 + 1) == 43 || byte X.t (p3 + 1) == 45) ∧ X.At w0 wx (p3 + 1) s)
    case first =>
      go_wp2_with fail
      all_goals (go_meet; exact ⟨congrArg Value.bool (by first | rfl | (rw [Bool.eq_iff_iff]; simp; omega)), by assumption⟩)
    case rest =>
    obtain ⟨rfl, hA⟩ := hcut
    have hl := Lx.At.c0 hA
    go_upto_if 98 with fail
    go_cut [] (fun wx => X.At w0 wx p4 s)
    case first =>
      cases hs : (byte X.t (p3 + 1) == 43 || byte X.t (p3 + 1) == 45) with
      | true =>
        have e : p4 = p3 + 1 + 1 := by rw [← HP4.out, signEnd, if_pos hs]
        subst e
        clear hs
        go_wp2_with (first | (go_at_call 58; ((with_reducible refine ((move1 X w0 _ _ _ (by assumption) (by omega))).mono ?_); (rintro e w' ⟨rfl, hA⟩); (have hl := Lx.At.c0 hA))))
        go_meet
        assumption
      | false =>
        have e : p4 = p3 + 1 := by rw [← HP4.out, signEnd, if_neg (by simp [hs])]
        subst e
        clear hs
        go_wp2_with fail
        go_meet
        assumption
    case rest =>
    have hA := hcut
    have hl := Lx.At.c0 hA
    clear hcut HP4
    cases hd : isDg (byte X.t p4) with
    | false =>
      have HX' : Hid (expEnd X.t p3 = p3) := by unfold Hid; rw [HX.out, hd]; rfl
      go_wp2_with (first | (go_at_call 145; ((with_reducible refine ((dg_no X w0 _ _ _ (by assumption) (by assumption))).mono ?_); (rintro e w' ⟨rfl, hA⟩); (have hl := Lx.At.c0 hA))) | (go_at_call 119; ((with_reducible refine (rewind_any X w0 _ _ _ (by assumption) (p3 - s) p3 (by omega) hp3).mono ?_); (rintro e w' ⟨rfl, hA⟩))))
      go_ret
      exact ⟨rfl, by rw [HX'.out]; assumption⟩
    | true =>
      have hlt4 := lt_of_class (f := isDg) rfl hd
      have HX' : Hid (expEnd X.t p3 = spanEnd X.t isDg (p4 + 1)) := by unfold Hid; rw [HX.out, hd, if_pos rfl, spanEnd_step rfl hd]
      clear HX
      go_wp2_with (first | (go_at_call 145; ((with_reducible refine ((dg_yes X w0 _ _ _ (by assumption) (by assumption))).mono ?_); (rintro e w' ⟨rfl, hA⟩); (have hl := Lx.At.c0 hA))))
      clear hd
      go_loopg [] (X.t.length - (p4 + 1)) (fun k  wr => ∃ q, p4 + 1 ≤ q ∧ q ≤ X.t.length ∧ k = X.t.length - q ∧ X.At w0 wr q s ∧ spanEnd X.t isDg q = spanEnd X.t isDg (p4 + 1))
      case atStart => exact ⟨p4 + 1, Nat.le_refl _, by omega, rfl, by assumption, rfl⟩
      case round =>
        obtain ⟨q, hq1, hq2, hk, hA, hE⟩ := hrel
        have hl := Lx.At.c0 hA
        have HE := Lib.hid hE
        clear hE
        cases hq : isDg (byte X.t q) with
        | true =>
          have hlq := lt_of_class (f := isDg) rfl hq
          have HS := Lib.hid (spanEnd_step (f := isDg) rfl hq)
          go_wp2_with (first | (go_at_call 145; ((with_reducible refine ((dg_yes X w0 _ _ _ (by assumption) (by assumption))).mono ?_); (rintro e w' ⟨rfl, hA⟩); (have hl := Lx.At.c0 hA))))
          go_roundg (X.t.length - (q + 1))
          case measure => omega
          case rel => exact ⟨q + 1, by omega, by omega, rfl, by assumption, HS.out.symm.trans HE.out⟩
        | false =>
          have HS := Lib.hid (spanEnd_stop (f := isDg) hq)
          go_wp2_with (first | (go_at_call 145; ((with_reducible refine ((dg_no X w0 _ _ _ (by assumption) (by assumption))).mono ?_); (rintro e w' ⟨rfl, hA⟩); (have hl := Lx.At.c0 hA))))
          have hA' := hA
          rw [← HS.out, HE.out] at hA'
          (go_ret; exact ⟨rfl, by rw [HX'.out]; exact hA'⟩)
end

end Go.Proofs.YtlglijnaeaonpaaGreatDoor.Css
/- The lexer's reader of numbers, percentages and dimensions. -/
namespace Go.Proofs.YtlglijnaeaonpaaGreatDoor.Css
open Go.RowKit

section
variable (X : Lx) (w0 w : World) (p s : Nat) (h : X.At w0 w p s)
include h
set_option maxRecDepth 100000 in
set_option maxHeartbeats 1000000 in
theorem num_no (hf : fracEnd X.t (signEnd X.t p) = none) :
    Calls Tryz.prog 121 #[.pointer (some ⟨X.l, 0, none⟩)] w fun e w' => e = .returned (.bool false) ∧ X.At w0 w' p s := by
  have hl := h.c0
  have hpl := h.pl
  have hsp := h.sp
  obtain ⟨p1, HP1⟩ : ∃ p1, Hid (signEnd X.t p = p1) := ⟨_, rfl⟩
  have hp1 : p1 ≤ X.t.length := HP1.out ▸ signEnd_le hpl
  have hp1' : p ≤ p1 := by rw [← HP1.out]; unfold signEnd; split <;> omega
  have HF := Lib.hid hf
  clear hf
  rw [HP1.out] at HF
  have hd : isDg (byte X.t p1) = false := by
    cases hd : isDg (byte X.t p1) with
    | false => rfl
    | true => have := HF.out; simp only [fracEnd, hd, if_true] at this; split at this <;> cases this
  go_enter Tryz.func121, Tryz.ntmps121
  go_upto_region 3 with (first | (go_at_call 80; ((with_reducible refine ((peek0 X w0 _ _ _ (by assumption))).mono ?_); (rintro e w' ⟨rfl, rfl⟩))) | (go_at_call 97; ((with_reducible refine ((pos_any X w0 _ _ _ (by assumption))).mono ?_); (rintro e w' ⟨rfl, hA⟩); (have hl := Lx.At.c0 hA))))
  go_cut [4, 21] (fun _ s21 wx => s21 = .bool (byte X.t p == 43 || byte X.t p == 45) ∧ X.At w0 wx p s)
  case first =>
    clear hd
    go_wp2_with fail
    all_goals (go_meet; exact ⟨congrArg Value.bool (by first | rfl | (rw [Bool.eq_iff_iff]; simp; omega)), by assumption⟩)
  case rest =>
  obtain ⟨rfl, hA⟩ := hcut
  have hl := Lx.At.c0 hA
  go_upto_if 21 with fail
  go_cut [] (fun wx => X.At w0 wx p1 s)
  case first =>
    clear hd
    cases hs : (byte X.t p == 43 || byte X.t p == 45) with
    | true =>
      have e : p1 = p + 1 := by rw [← HP1.out, signEnd, if_pos hs]
      subst e
      clear hs
      go_wp2_with (first | (go_at_call 58; ((with_reducible refine ((move1 X w0 _ _ _ (by assumption) (by omega))).mono ?_); (rintro e w' ⟨rfl, hA⟩); (have hl := Lx.At.c0 hA))))
      go_meet
      assumption
    | false =>
      have e : p1 = p := by rw [← HP1.out, signEnd, if_neg (by simp [hs])]
      subst e
      clear hs
      go_wp2_with fail
      go_meet
      assumption
  case rest =>
  have hA := hcut
  have hl := Lx.At.c0 hA
  clear hcut HP1
  cases hdot : (byte X.t p1 == 46) with
  | true =>
    have hd2 : isDg (byte X.t (p1 + 1)) = false := by
      cases hd2 : isDg (byte X.t (p1 + 1)) with
      | false => rfl
      | true => have := HF.out; simp [fracEnd, hd, hdot, hd2] at this
    have hlt : p1 < X.t.length := lt_of_byte (by rw [beq_iff_eq.1 hdot]; decide)
    go_wp2_with (first | (go_at_call 145; ((with_reducible refine ((dg_no X w0 _ _ _ (by assumption) (by assumption))).mono ?_); (rintro e w' ⟨rfl, hA⟩); (have hl := Lx.At.c0 hA))) | (go_at_call 80; ((with_reducible refine ((peek0 X w0 _ _ _ (by assumption))).mono ?_); (rintro e w' ⟨rfl, rfl⟩))) | (go_at_call 58; ((with_reducible refine ((move1 X w0 _ _ _ (by assumption) (by omega))).mono ?_); (rintro e w' ⟨rfl, hA⟩); (have hl := Lx.At.c0 hA))) | (go_at_call 119; ((with_reducible refine (rewind_any X w0 _ _ _ (by assumption) (p - s) p (by omega) hpl).mono ?_); (rintro e w' ⟨rfl, hA⟩))))
    go_ret
    exact ⟨rfl, by assumption⟩
  | false =>
    go_wp2_with (first | (go_at_call 145; ((with_reducible refine ((dg_no X w0 _ _ _ (by assumption) (by assumption))).mono ?_); (rintro e w' ⟨rfl, hA⟩); (have hl := Lx.At.c0 hA))) | (go_at_call 80; ((with_reducible refine ((peek0 X w0 _ _ _ (by assumption))).mono ?_); (rintro e w' ⟨rfl, rfl⟩))) | (go_at_call 58; ((with_reducible refine ((move1 X w0 _ _ _ (by assumption) (by omega))).mono ?_); (rintro e w' ⟨rfl, hA⟩); (have hl := Lx.At.c0 hA))) | (go_at_call 119; ((with_reducible refine (rewind_any X w0 _ _ _ (by assumption) (p - s) p (by omega) hpl).mono ?_); (rintro e w' ⟨rfl, hA⟩))))
    go_ret
    exact ⟨rfl, by assumption⟩

theorem numeric_no (hf : fracEnd X.t (signEnd X.t p) = none) :
    Calls Tryz.prog 86 #[.pointer (some ⟨X.l, 0, none⟩)] w fun e w' => e = .returned (.int .u32 0) ∧ X.At w0 w' p s := by
  have HF := Lib.hid hf
  clear hf
  go_enter Tryz.func86, Tryz.ntmps86
  go_wp2_with (first | (go_at_call 121; ((with_reducible refine (num_no X w0 _ _ _ (by assumption) HF.out).mono ?_); (rintro e w' ⟨rfl, hA⟩))))
  go_ret
  exact ⟨rfl, by assumption⟩
theorem numeric_pc (p3 : Nat) (hf : fracEnd X.t (signEnd X.t p) = some p3) (hc : byte X.t (expEnd X.t p3) = 37) :
    Calls Tryz.prog 86 #[.pointer (some ⟨X.l, 0, none⟩)] w fun e w' => e = .returned (.int .u32 11) ∧ X.At w0 w' (expEnd X.t p3 + 1) s := by
  have HF := Lib.hid hf
  clear hf
  have HC := Lib.hid hc
  clear hc
  go_enter Tryz.func86, Tryz.ntmps86
  go_wp2_with (first | (go_at_call 121; ((with_reducible refine (num_yes X w0 _ _ _ (by assumption) _ HF.out).mono ?_); (rintro e w' ⟨rfl, hA⟩))) | (go_at_call 122; ((with_reducible refine (cb_yes X w0 _ _ _ (by assumption) _ (by decide) HC.out).mono ?_); (rintro e w' ⟨rfl, hA⟩))))
  go_ret
  exact ⟨rfl, by assumption⟩
theorem numeric_id (p3 : Nat) (hn : NoBs X.t) (hf : fracEnd X.t (signEnd X.t p) = some p3) (hc : (byte X.t (expEnd X.t p3) == 37) = false)
    (p1 : Nat) (hp1 : ((byte X.t (expEnd X.t p3) == 45) = false ∧ p1 = expEnd X.t p3) ∨ ((byte X.t (expEnd X.t p3) == 45) = true ∧ (byte X.t (expEnd X.t p3 + 1) == 45) = false ∧ p1 = expEnd X.t p3 + 1)) :
    Calls Tryz.prog 86 #[.pointer (some ⟨X.l, 0, none⟩)] w fun e w' => e = .returned (.int .u32 (if isSt (byte X.t p1) = true then 12 else 10)) ∧ X.At w0 w' (nameEnd X.t (expEnd X.t p3) p1) s := by
  have HF := Lib.hid hf
  clear hf
  have HC := Lib.hid hc
  clear hc
  have HP := Lib.hid hp1
  clear hp1
  cases hs : isSt (byte X.t p1) with
  | true =>
    have HS := Lib.hid hs
    rw [if_pos rfl]
    go_enter Tryz.func86, Tryz.ntmps86
    go_wp2_with (first | (go_at_call 121; ((with_reducible refine (num_yes X w0 _ _ _ (by assumption) _ HF.out).mono ?_); (rintro e w' ⟨rfl, hA⟩))) | (go_at_call 122; ((with_reducible refine (cb_no X w0 _ _ _ (by assumption) _ HC.out).mono ?_); (rintro e w' ⟨rfl, hA⟩))) | (go_at_call 123; ((with_reducible refine (id_any X w0 _ _ _ (by assumption) hn _ HP.out).mono ?_); (rintro e w' ⟨rfl, hA⟩))))
    go_ret
    exact ⟨rfl, by assumption⟩
  | false =>
    have HS := Lib.hid hs
    rw [if_neg (by simp)]
    go_enter Tryz.func86, Tryz.ntmps86
    go_wp2_with (first | (go_at_call 121; ((with_reducible refine (num_yes X w0 _ _ _ (by assumption) _ HF.out).mono ?_); (rintro e w' ⟨rfl, hA⟩))) | (go_at_call 122; ((with_reducible refine (cb_no X w0 _ _ _ (by assumption) _ HC.out).mono ?_); (rintro e w' ⟨rfl, hA⟩))) | (go_at_call 123; ((with_reducible refine (id_any X w0 _ _ _ (by assumption) hn _ HP.out).mono ?_); (rintro e w' ⟨rfl, hA⟩))))
    go_ret
    exact ⟨rfl, by assumption⟩
end

end Go.Proofs.YtlglijnaeaonpaaGreatDoor.Css
/- The lexer's reader of hashes. -/
namespace Go.Proofs.YtlglijnaeaonpaaGreatDoor.Css
open Go.RowKit

section
variable (X : Lx) (w0 w : World) (p s : Nat) (h : X.At w0 w p s) (hn : NoBs X.t)
include h hn
set_option maxRecDepth 100000 in
set_option maxHeartbeats 1000000 in
theorem hash_yes (hc0 : byte X.t p ≠ 0) (hc : isNm (byte X.t (p + 1)) = true) :
    Calls Tryz.prog 84 #[.pointer (some ⟨X.l, 0, none⟩)] w fun e w' => e = .returned (.bool true) ∧ X.At w0 w' (spanEnd X.t isNm (p + 1)) s := by
  have hl := h.c0
  have hlt0 := lt_of_byte hc0
  have hlt := lt_of_class (f := isNm) rfl hc
  have HX := Lib.hid (spanEnd_step (f := isNm) rfl hc)
  replace hc := isNm_yes hc
  go_enter Tryz.func84, Tryz.ntmps84
  go_upto_region 4 with (first | (go_at_call 80; ((with_reducible refine ((peek0 X w0 _ _ _ (by assumption))).mono ?_); (rintro e w' ⟨rfl, rfl⟩))) | (go_at_call 97; ((with_reducible refine ((pos_any X w0 _ _ _ (by assumption))).mono ?_); (rintro e w' ⟨rfl, hA⟩); (have hl := Lx.At.c0 hA))) | (go_at_call 58; ((with_reducible refine ((move1 X w0 _ _ _ (by assumption) (by omega))).mono ?_); (rintro e w' ⟨rfl, hA⟩); (have hl := Lx.At.c0 hA))))
  go_cut [4, 55] (fun _ s55 wx => s55 = .bool false ∧ X.At w0 wx (p + 1) s)
  case first =>
    go_wp2_with fail
    all_goals first | (exfalso; omega) | (go_meet; exact ⟨congrArg Value.bool (by first | rfl | (simp; omega)), by assumption⟩)
  case rest =>
  obtain ⟨rfl, hA⟩ := hcut
  have hl := Lx.At.c0 hA
  clear hc
  go_wp2_with (first | (go_at_call 58; ((with_reducible refine ((move1 X w0 _ _ _ (by assumption) (by omega))).mono ?_); (rintro e w' ⟨rfl, hA⟩); (have hl := Lx.At.c0 hA))))
  go_loopg [] (X.t.length - (p + 1 + 1)) (fun k wr => ∃ q, p + 1 + 1 ≤ q ∧ q ≤ X.t.length ∧ k = X.t.length - q ∧ X.At w0 wr q s ∧ spanEnd X.t isNm q = spanEnd X.t isNm (p + 1 + 1))
  case atStart => exact ⟨p + 1 + 1, Nat.le_refl _, by omega, rfl, by assumption, rfl⟩
  case round =>
    obtain ⟨q, hq1, hq2, hk, hA, hE⟩ := hrel
    have hl := Lx.At.c0 hA
    have HE := Lib.hid hE
    clear hE
    go_upto_region 10 with (first | (go_at_call 80; ((with_reducible refine ((peek0 X w0 _ _ _ (by assumption))).mono ?_); (rintro e w' ⟨rfl, rfl⟩))))
    go_cut [5, 113] (fun s5 s113 wx => (∃ c, s5 = .int .u8 c ∧ c = byte X.t q) ∧ s113 = .bool (!isNm (byte X.t q)) ∧ X.At w0 wx q s)
    case first =>
      go_wp2_with fail
      all_goals (go_meet; exact ⟨⟨_, rfl, by first | rfl | omega⟩, congrArg Value.bool (by rw [Bool.eq_iff_iff]; simp [isNm]; omega), by assumption⟩)
    case rest =>
      obtain ⟨⟨_, rfl, rfl⟩, rfl, hA⟩ := hcut
      have hl := Lx.At.c0 hA
      cases hq : isNm (byte X.t q) with
      | true =>
        have hlq := lt_of_class (f := isNm) rfl hq
        have HS := Lib.hid (spanEnd_step (f := isNm) rfl hq)
        clear hq
        go_wp2_with (first | (go_at_call 58; ((with_reducible refine ((move1 X w0 _ _ _ (by assumption) (by omega))).mono ?_); (rintro e w' ⟨rfl, hA⟩); (have hl := Lx.At.c0 hA))))
        go_roundg (X.t.length - (q + 1))
        case measure => omega
        case rel => exact ⟨q + 1, by omega, by omega, rfl, by assumption, HS.out.symm.trans HE.out⟩
      | false =>
        have HS := Lib.hid (spanEnd_stop (f := isNm) hq)
        have b3 := hn.b q
        clear hq
        go_wp2_with fail
        go_ret
        refine ⟨rfl, ?_⟩
        rw [HX.out, ← HE.out, HS.out]
        assumption
end

end Go.Proofs.YtlglijnaeaonpaaGreatDoor.Css
/- The lexer's reader of strings. -/
namespace Go.Proofs.YtlglijnaeaonpaaGreatDoor.Css
open Go.RowKit

section
variable (X : Lx) (w0 w : World) (p s : Nat) (h : X.At w0 w p s) (hn : NoBs X.t)
include h hn
set_option maxRecDepth 100000 in
set_option maxHeartbeats 1000000 in
theorem str_any (q : Nat) (hpq : p < q) (hqc : byte X.t q = byte X.t p) (hb : ∀ i, p < i → i ≤ q → byte X.t i ≠ 0 ∧ byte X.t i ≠ 10 ∧ byte X.t i ≠ 13 ∧ byte X.t i ≠ 12) (hc : ∀ i, p < i → i < q → byte X.t i ≠ byte X.t p) :
    Calls Tryz.prog 85 #[.pointer (some ⟨X.l, 0, none⟩)] w fun e w' => e = .returned (.int .u32 5) ∧ X.At w0 w' (q + 1) s := by
  have hl := h.c0
  have hqlt : q < X.t.length := lt_of_byte (hb q hpq (Nat.le_refl _)).1
  have HQ := Lib.hid hqc
  have HB := Lib.hid hb
  have HC := Lib.hid hc
  clear hqc hb hc
  go_enter Tryz.func85, Tryz.ntmps85
  go_wp2_with (first | (go_at_call 80; ((with_reducible refine ((peek0 X w0 _ _ _ (by assumption))).mono ?_); (rintro e w' ⟨rfl, rfl⟩))) | (go_at_call 58; ((with_reducible refine ((move1 X w0 _ _ _ (by assumption) (by omega))).mono ?_); (rintro e w' ⟨rfl, hA⟩); (have hl := Lx.At.c0 hA))))
  go_loopg [] (q - (p + 1)) (fun k wr => ∃ r, p + 1 ≤ r ∧ r ≤ q ∧ k = q - r ∧ X.At w0 wr r s)
  case atStart => exact ⟨p + 1, Nat.le_refl _, by omega, rfl, by assumption⟩
  case round =>
    obtain ⟨r, hr1, hr2, hk, hA⟩ := hrel
    have hl := Lx.At.c0 hA
    obtain ⟨g1, g2, g3, g4⟩ := HB.out r (by omega) hr2
    have b1 : (byte X.t r == 0) = false := beq_eq_false_iff_ne.2 g1
    have b2 : (byte X.t r == 10) = false := beq_eq_false_iff_ne.2 g2
    have b3 : (byte X.t r == 13) = false := beq_eq_false_iff_ne.2 g3
    have b4 : (byte X.t r == 12) = false := beq_eq_false_iff_ne.2 g4
    clear g1 g2 g3 g4
    by_cases e : r = q
    · subst e
      have b5 : (byte X.t r == byte X.t p) = true := beq_iff_eq.2 HQ.out
      go_wp2_with (first | (go_at_call 80; ((with_reducible refine ((peek0 X w0 _ _ _ (by assumption))).mono ?_); (rintro e w' ⟨rfl, rfl⟩))) | (go_at_call 58; ((with_reducible refine ((move1 X w0 _ _ _ (by assumption) (by omega))).mono ?_); (rintro e w' ⟨rfl, hA⟩); (have hl := Lx.At.c0 hA))))
      go_ret
      exact ⟨rfl, by assumption⟩
    · have b5 : (byte X.t r == byte X.t p) = false := beq_eq_false_iff_ne.2 (HC.out r (by omega) (by omega))
      have b6 := hn.a r
      go_wp2_with (first | (go_at_call 80; ((with_reducible refine ((peek0 X w0 _ _ _ (by assumption))).mono ?_); (rintro e w' ⟨rfl, rfl⟩))) | (go_at_call 58; ((with_reducible refine ((move1 X w0 _ _ _ (by assumption) (by omega))).mono ?_); (rintro e w' ⟨rfl, hA⟩); (have hl := Lx.At.c0 hA))))
      go_roundg (q - (r + 1))
      case measure => omega
      case rel => exact ⟨r + 1, by omega, by omega, rfl, by assumption⟩
end

end Go.Proofs.YtlglijnaeaonpaaGreatDoor.Css
/- Where no range of characters stands behind u: the lexer's reader of ranges. -/
namespace Go.Proofs.YtlglijnaeaonpaaGreatDoor.Css
open Go.RowKit

section
variable (X : Lx) (w0 w : World) (p s : Nat) (h : X.At w0 w p s)
include h
set_option maxRecDepth 100000 in
set_option maxHeartbeats 1000000 in
theorem ur_no (hu : byte X.t p = 117 ∨ byte X.t p = 85) (hc : (byte X.t (p + 1) == 43) = false ∨ (isHx (byte X.t (p + 2)) = false ∧ (byte X.t (p + 2) == 63) = false)) :
    Calls Tryz.prog 94 #[.pointer (some ⟨X.l, 0, none⟩)] w fun e w' => e = .returned (.bool false) ∧ X.At w0 w' p s := by
  have hl := h.c0
  have hpl := h.pl
  have hsp := h.sp
  have hlt : p < X.t.length := lt_of_byte (by rcases hu with e | e <;> rw [e] <;> decide)
  by_cases h43 : (byte X.t (p + 1) == 43) = true
  · have hlt1 : p + 1 < X.t.length := lt_of_byte (by rw [beq_iff_eq.1 h43]; decide)
    have h43' : (byte X.t (p + 1) != 43) = false := by simp [bne, h43]
    obtain ⟨hx, hq⟩ := hc.resolve_left (by simp [h43])
    clear h43 hc
    cases hm : (byte X.t (p + 2) == 45) with
    | true =>
      have HM := Lib.hid (beq_iff_eq.1 hm)
      clear hm
      rcases hu with e | e
      all_goals
        go_enter Tryz.func94, Tryz.ntmps94
        go_wp2_with (first | (go_at_call 80; ((with_reducible refine ((peek0 X w0 _ _ _ (by assumption))).mono ?_); (rintro e w' ⟨rfl, rfl⟩))) | (go_at_call 80; ((with_reducible refine ((peek1 X w0 _ _ _ (by assumption) (by omega))).mono ?_); (rintro e w' ⟨rfl, rfl⟩))) | (go_at_call 97; ((with_reducible refine ((pos_any X w0 _ _ _ (by assumption))).mono ?_); (rintro e w' ⟨rfl, hA⟩); (have hl := Lx.At.c0 hA))) | (go_at_call 58; ((with_reducible refine ((move2 X w0 _ _ _ (by assumption) (by omega))).mono ?_); (rintro e w' ⟨rfl, hA⟩); (have hl := Lx.At.c0 hA))))
        go_loopg [5] 0 (fun _ v wr => v = .int .i64 0 ∧ X.At w0 wr (p + 2) s)
        case atStart => exact ⟨rfl, by assumption⟩
        case round =>
          obtain ⟨rfl, hA⟩ := hrel
          have hl := Lx.At.c0 hA
          go_wp2_with (first | (go_at_call 128; ((with_reducible refine ((hx_no X w0 _ _ _ (by assumption) (by assumption))).mono ?_); (rintro e w' ⟨rfl, hA⟩); (have hl := Lx.At.c0 hA))) | (go_at_call 122; ((with_reducible refine (cb_yes X w0 _ _ _ (by assumption) _ (by decide) HM.out).mono ?_); (rintro e w' ⟨rfl, hA⟩); (have hl := Lx.At.c0 hA))) | (go_at_call 119; ((with_reducible refine (rewind_any X w0 _ _ _ (by assumption) (p - s) p (by omega) hpl).mono ?_); (rintro e w' ⟨rfl, hA⟩))))
          go_ret
          exact ⟨rfl, by assumption⟩
    | false =>
      rcases hu with e | e
      all_goals
        go_enter Tryz.func94, Tryz.ntmps94
        go_wp2_with (first | (go_at_call 80; ((with_reducible refine ((peek0 X w0 _ _ _ (by assumption))).mono ?_); (rintro e w' ⟨rfl, rfl⟩))) | (go_at_call 80; ((with_reducible refine ((peek1 X w0 _ _ _ (by assumption) (by omega))).mono ?_); (rintro e w' ⟨rfl, rfl⟩))) | (go_at_call 97; ((with_reducible refine ((pos_any X w0 _ _ _ (by assumption))).mono ?_); (rintro e w' ⟨rfl, hA⟩); (have hl := Lx.At.c0 hA))) | (go_at_call 58; ((with_reducible refine ((move2 X w0 _ _ _ (by assumption) (by omega))).mono ?_); (rintro e w' ⟨rfl, hA⟩); (have hl := Lx.At.c0 hA))))
        go_loopg [5] 0 (fun _ v wr => v = .int .i64 0 ∧ X.At w0 wr (p + 2) s)
        case atStart => exact ⟨rfl, by assumption⟩
        case round =>
          obtain ⟨rfl, hA⟩ := hrel
          have hl := Lx.At.c0 hA
          go_wp2_with (first | (go_at_call 128; ((with_reducible refine ((hx_no X w0 _ _ _ (by assumption) (by assumption))).mono ?_); (rintro e w' ⟨rfl, hA⟩); (have hl := Lx.At.c0 hA))) | (go_at_call 122; ((with_reducible refine ((cb_no X w0 _ _ _ (by assumption) _ (by assumption))).mono ?_); (rintro e w' ⟨rfl, hA⟩); (have hl := Lx.At.c0 hA))) | (go_at_call 119; ((with_reducible refine (rewind_any X w0 _ _ _ (by assumption) (p - s) p (by omega) hpl).mono ?_); (rintro e w' ⟨rfl, hA⟩))))
          go_ret
          exact ⟨rfl, by assumption⟩
  · have h43' : (byte X.t (p + 1) != 43) = true := by simpa [bne] using h43
    clear h43 hc
    rcases hu with e | e
    all_goals
      go_enter Tryz.func94, Tryz.ntmps94
      go_wp2_with (first | (go_at_call 80; ((with_reducible refine ((peek0 X w0 _ _ _ (by assumption))).mono ?_); (rintro e w' ⟨rfl, rfl⟩))) | (go_at_call 80; ((with_reducible refine ((peek1 X w0 _ _ _ (by assumption) (by omega))).mono ?_); (rintro e w' ⟨rfl, rfl⟩))))
      go_ret
      exact ⟨rfl, by assumption⟩
end

end Go.Proofs.YtlglijnaeaonpaaGreatDoor.Css
