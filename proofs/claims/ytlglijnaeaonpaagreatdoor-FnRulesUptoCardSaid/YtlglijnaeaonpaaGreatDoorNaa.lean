/- Whether a text is a selector; the names of at-rules. -/
import Derived.LoopN
import Derived.Deep.RegionWith
import Derived.Deep.RegionHeld3
import Derived.Test.YtlglijnaeaonpaaGreatDoorNz
import Derived.Test.YtlglijnaeaonpaaGreatDoorNs
set_option linter.all false
/- Whether a text is a selector; the names of at-rules. -/
namespace Go.Proofs.YtlglijnaeaonpaaGreatDoor.Css
open Go.RowKit

/-- The kinds of a selector's tokens. -/
def Sk (tt : Int) : Prop := tt = 1 ∨ tt = 4 ∨ tt = 9 ∨ tt = 23 ∨ tt = 26 ∨ tt = 27 ∨ tt = 5 ∨ tt = 15 ∨ tt = 16 ∨ tt = 17 ∨ tt = 18 ∨ tt = 14 ∨ tt = 2 ∨ tt = 28 ∨ tt = 29
instance (tt : Int) : Decidable (Sk tt) := inferInstanceAs (Decidable (_ ∨ _))
def selKinds : ByteArray := ⟨#[32, 105, 100, 101, 110, 116, 32, 104, 97, 115, 104, 32, 100, 101, 108, 105, 109, 32, 58, 32, 91, 32, 93, 32, 115, 116, 114, 105, 110, 103, 32, 124, 61, 32, 94, 61, 32, 36, 61, 32, 42, 61, 32, 126, 61, 32, 102, 117, 110, 99, 116, 105, 111, 110, 32, 40, 32, 41, 32]⟩
theorem sel_kind {tt : Int} (h1 : 1 ≤ tt) (h2 : tt ≤ 32) (h : hasT selKinds (⟨#[32]⟩ ++ knm tt ++ ⟨#[32]⟩) = true) : Sk tt := by
  rw [hasT_L] at h
  rcases kcases h1 h2 with rfl | rfl | rfl | rfl | rfl | rfl | rfl | rfl | rfl | rfl | rfl | rfl | rfl | rfl | rfl | rfl | rfl | rfl | rfl | rfl | rfl | rfl | rfl | rfl | rfl | rfl | rfl | rfl | rfl | rfl | rfl | rfl
  all_goals first | (exact (by decide)) | (exfalso; revert h; decide +kernel)
/-- A selector. -/
structure SelT (l : List UInt8) : Prop where
  bs : NoBs l
  nz : NoZ l
  le : l.length ≤ 60
  ts : ∃ ts, ts ≠ [] ∧ Chain l.length 0 ts l.length ∧ (∀ k ∈ ts, Sk k.1 ∧ Tk l k.2.1 k.1 k.2.2) ∧ Bal 0 ts
def delWord : List UInt8 := [46, 62, 43, 126, 61, 42]
theorem del_slb (w : World) (o : Nat × Nat) : Slb (w.alloc (.cells #[.int .u8 46, .int .u8 62, .int .u8 43, .int .u8 126, .int .u8 61, .int .u8 42] 5 o)) (.slice (some ⟨w.heap.size, 0, none⟩) 6 6) delWord := by
  refine ⟨_, _, rfl, fun _ => ⟨w.heap.size, 0, rfl, fun i hi => ?_⟩⟩
  have hi' : i < 6 := hi
  rw [Nat.zero_add, cell_at (alloc_new _ _)]
  match i, hi' with
  | 0, _ => rfl
  | 1, _ => rfl
  | 2, _ => rfl
  | 3, _ => rfl
  | 4, _ => rfl
  | 5, _ => rfl
theorem del_byte {c : Int} (h : hasB delWord c = true) : c = 46 ∨ c = 62 ∨ c = 43 ∨ c = 126 ∨ c = 61 ∨ c = 42 := by
  simp only [hasB, delWord, List.any_cons, List.any_nil, Bool.or_false, Bool.or_eq_true, beq_iff_eq] at h
  rcases h with h | h | h | h | h | h <;> (subst h; decide)
theorem knm_del {tt : Int} (h1 : 1 ≤ tt) (h2 : tt ≤ 32) (h : tt ≠ 9) : ((knm tt).toList == [100, 101, 108, 105, 109]) = false := by
  rcases kcases h1 h2 with rfl | rfl | rfl | rfl | rfl | rfl | rfl | rfl | rfl | rfl | rfl | rfl | rfl | rfl | rfl | rfl | rfl | rfl | rfl | rfl | rfl | rfl | rfl | rfl | rfl | rfl | rfl | rfl | rfl | rfl | rfl | rfl
  all_goals first | (exact absurd rfl h) | decide +kernel
theorem AT.good {l : List UInt8} {ts : List (Int × Nat × Nat)} (h2 : Chain l.length 0 ts l.length)
    (h3 : ∀ k ∈ ts, (1 ≤ k.1 ∧ k.1 ≤ 32) ∧ hasT selKinds (⟨#[32]⟩ ++ knm k.1 ++ ⟨#[32]⟩) = true ∧ (Allow l k.2.1 k.1 → Tk l k.2.1 k.1 k.2.2) ∧ (k.1 = 9 → k.2.2 = k.2.1 + 1 ∧ Del9 l k.2.1)) : Good0 l ts := by
  refine ⟨h2, fun k hk => ?_⟩
  obtain ⟨a, b, c, d⟩ := h3 k hk
  have hs := sel_kind a.1 a.2 b
  by_cases h9 : k.1 = 9
  · exact .inr ⟨h9, d h9⟩
  · unfold Sk at hs
    exact .inl ⟨by omega, c ⟨by omega, fun e => absurd e h9⟩⟩
def SelPost (w : World) (l : List UInt8) (e : Ending) (w' : World) : Prop := ∃ r, e = .returned (.bool r) ∧ Below w.heap.size w w' ∧ (r = true → SelT l)

set_option maxRecDepth 100000 in
set_option maxHeartbeats 4000000 in
theorem isSelector_any (w : World) (v : Value) (l : List UInt8) (h : Sl w v l) (hU : Utab w) (hlen : l.length ≤ 2147483648) : Calls Tryz.prog 33 #[v] w (SelPost w l) := by
  have hat := areTokens_any w v l selKinds h hU hlen (by decide)
  unfold selKinds at hat
  obtain ⟨a, cap, rfl, hlc, hcap, hx⟩ := id h
  have HS := Lib.hid h
  have HU := Lib.hid hU
  have hU3 := hU.lt
  clear h hU
  have kc := fun (w : World) (C : Array Value) (n c : Nat) => Lib.run_convert_bytes_const (P := Tryz.prog) w 24 5 C n c Tryz.underlying24 Tryz.underlying5
  go_enter Tryz.func33, Tryz.ntmps33
  go_upto_region 1 with fail
  go_cut [9] (fun s wx => ∃ r : Bool, s = .bool r ∧ Below w.heap.size w wx ∧ (r = false → AT selKinds l))
  case first =>
    go_wp2_with (go_at_call 51; (with_reducible refine hat.mono ?_); rintro e w1 ⟨r, rfl, hb1, hr1⟩; have HR := Lib.hid hr1; clear hr1)
    go_meet
    exact ⟨_, rfl, hb1, fun hr => HR.out (by simpa using hr)⟩
  case rest =>
  obtain ⟨r, rfl, hb1, hr⟩ := hcut
  clear hat
  cases r with
  | true =>
    clear hr
    go_wp2
    go_ret
    exact ⟨false, rfl, hb1, fun h => by cases h⟩
  | false =>
  have hat := hr rfl
  clear hr
  obtain ⟨ts0, t1, t2, t3, t4⟩ := hat.ts
  have hgood := AT.good t2 t3
  have htok := tokens_any wc _ l (HS.out.below hb1) (HU.out.below hU3 hb1) hlen
  have HA := Lib.hid (show _ ∧ _ ∧ _ ∧ _ from ⟨t1, t2, t3, t4⟩)
  have HG := Lib.hid hgood
  have HT0 := Lib.hid (show _ ∧ _ ∧ _ from ⟨hat.bs, hat.nz, hat.le⟩)
  have HB1 := Lib.hid hb1
  clear hat t1 t2 t3 t4 hgood hb1
  go_upto_region 4 with (go_at_call 49; ((with_reducible refine htok.mono ?_); rintro e w1 ⟨b, off, cap', ts, out, ok, rfl, hbel, hout, hv⟩; obtain ⟨rfl, -⟩ := hout.det HT0.out.1 HT0.out.2.1 _ HG.out; obtain ⟨oa, oc, rfl, hoc, hoc2, hpos⟩ := id hout.own.tokMem; have HT := Lib.hid hout; have HV := Lib.hid hv; have HBL := Lib.hid hbel; clear hout hv hbel htok))
  unfold maxLen at hoc2
  clear hpos
  have hts0 : 0 < ts.length := by
    have := HA.out.1
    cases ts with
    | nil => exact absurd rfl this
    | cons _ _ => exact Nat.succ_pos _
  have hl0 : 0 < l.length := by
    have h1 := HA.out.2.1.len
    omega
  obtain ⟨b0, off0, rfl, hL0⟩ := hx hl0
  have hve := HV.out hl0
  obtain ⟨rfl, rfl, rfl⟩ : b0 = b ∧ off0 = off ∧ cap = cap' := by
    simp only [Value.slice.injEq, Option.some.injEq, Addr.mk.injEq] at hve
    exact ⟨hve.1.1, hve.1.2.1, hve.2.2⟩
  have hbb : b0 < w.heap.size := hL0.lt hl0
  have hlen2 : ts.length ≤ 60 := by have := HA.out.2.1.len; have := HT0.out.2.2; omega
  have HL := Lib.hid hL0
  have hbt := HB1.out.trans (HBL.out.mono HB1.out.size)
  have HBT := Lib.hid hbt
  have HL1 := Lib.hid (hL0.below hbb hbt)
  clear hx hve hL0 hbt
  go_wp2
  go_loopg [5, 17] ts.length (fun k _ i wr => ∃ q, q ≤ ts.length ∧ k = ts.length - q ∧ i = .int .i64 q ∧ Below w1.heap.size w1 wr ∧ ∀ j (h : j < ts.length), j < q → ts[j].1 = 9 → hasB delWord (byte l ts[j].2.1) = true)
  case atStart => exact ⟨0, Nat.zero_le _, rfl, rfl, Below.refl _ _, fun _ _ h => by omega⟩
  case round =>
    obtain ⟨q, hq, hk, rfl, hbel, hall⟩ := hrel
    have HAL := Lib.hid hall
    have HK := Lib.hid hk
    clear hall hk
    by_cases hlt : q < ts.length
    · obtain ⟨g, o, c, hce, _, _, hcell⟩ := TokMem.pos HT.out.own.tokMem (by omega)
      cases hce
      obtain ⟨k0, k1, k2, k3, k4, k5⟩ := hcell wr hbel q hlt
      have htt := HT.out.kinds _ (List.getElem_mem hlt)
      have hmm := HA.out.2.1.mem _ (List.getElem_mem hlt)
      obtain ⟨tt, hte⟩ : ∃ tt : Int, tt = ts[q].1 := ⟨_, rfl⟩
      obtain ⟨p, hpe⟩ : ∃ p : Nat, p = ts[q].2.1 := ⟨_, rfl⟩
      obtain ⟨n, hne⟩ : ∃ n : Nat, n = ts[q].2.2 - ts[q].2.1 := ⟨_, rfl⟩
      rw [← hte] at k0 htt
      rw [← hne, ← hpe] at k1
      have hn0 : 0 < n := by omega
      have hpl : p < l.length := by omega
      have HTE := Lib.hid (show _ ∧ _ from ⟨hte, hpe⟩)
      have HLT := Lib.hid hlt
      have HTT := Lib.hid htt
      clear hte hcell hpe hne hmm htt
      go_upto_region 6 with fail
      go_cut [5, 6] (fun s5 s wx => s5 = .int .i64 q ∧ ∃ tg, s = .pointer (some ⟨tg, 0, none⟩) ∧ wx.cell? ⟨tg, 0, none⟩ = some (.string (knm tt)) ∧ wx.cell? ⟨tg, 1, none⟩ = some (.slice (some ⟨b0, off0 + p, none⟩) n (cap - p)) ∧ tg < wx.heap.size ∧ Below wr.heap.size wr wx)
      case first =>
        have hb := (Below.refl wr.heap.size wr).alloc (Nat.le_refl _)
        go_wp2_with fail
        go_meet
        exact ⟨rfl, _, rfl, by rw [World.cell?_alloc_new]; rfl, by rw [World.cell?_alloc_new]; rfl, by simp, hb _⟩
      case rest =>
      clear k0 k1 k2 k3 k4 k5
      obtain ⟨rfl, tg, rfl, kx, ky, htg, hbx⟩ := hcut
      have hb2 := hbel.trans (hbx.mono hbel.size)
      have hcl : wc.cell? ⟨b0, off0 + p, none⟩ = some (.int .u8 (byte l p)) := by
        have h1 := HL1.out.below (Nat.lt_of_lt_of_le hbb HBT.out.size) hb2
        exact h1 p hpl
      have HB2 := Lib.hid hb2
      clear hbel hbx hb2
      cases h9 : (tt == 9) with
      | true =>
        obtain rfl : tt = 9 := beq_iff_eq.1 h9
        have hkn : ((knm 9).toList == [100, 101, 108, 105, 109]) = true := by decide +kernel
        have hkc : ((knm 9).toList == [58]) = false := by decide +kernel
        obtain ⟨c, hc⟩ : ∃ c, c = byte l p := ⟨_, rfl⟩
        have hh := fun (w' : World) (o : Nat × Nat) => has_any _ _ delWord c (del_slb w' o) (by decide)
        have HC := Lib.hid hc
        rw [← hc] at hcl
        have hcl2 := fun o => (((Below.refl wc.heap.size wc).alloc (Nat.le_refl _) o).cell (p := ⟨b0, off0 + p, none⟩) (World.block_lt_of_cell? wc _ hcl)).trans hcl
        have hbc : c ≤ 255 ∧ 0 ≤ c := by rw [hc]; exact ⟨byte_hi _ _, byte_lo _ _⟩
        clear hc h9
        cases hr : hasB delWord c with
        | false =>
          rw [hr] at hh
          clear hr
          go_wp2_with (go_at_call 53; ((with_reducible refine (hh _ _).mono ?_); rintro e w' ⟨rfl, rfl⟩))
          all_goals go_ret
          all_goals exact ⟨false, rfl, HBT.out.trans ((HB2.out.alloc HB2.out.size _).mono HBT.out.size), fun h => by cases h⟩
        | true =>
          have HR := Lib.hid hr
          rw [hr] at hh
          clear hr
          go_wp2_with (go_at_call 53; ((with_reducible refine (hh _ _).mono ?_); rintro e w' ⟨rfl, rfl⟩))
          all_goals go_roundg (ts.length - (q + 1))
          case measure => have h1 := HK.out; have h2 := HLT.out; omega
          case rel =>
            refine ⟨q + 1, HLT.out, rfl, by go_num, HB2.out.alloc HB2.out.size _, fun j h hj h9 => ?_⟩
            by_cases e : j = q
            · subst e
              rw [← HTE.out.2, ← HC.out]; exact HR.out
            · exact HAL.out j h (by omega) h9
      | false =>
        have hkn := knm_del HTT.out.1 HTT.out.2 (beq_eq_false_iff_ne.1 h9)
        have HN9 := Lib.hid (beq_eq_false_iff_ne.1 h9)
        clear h9 hcl
        cases hco : ((knm tt).toList == [58]) with
        | true =>
          cases hq0 : ((q : Int) == 0) with
          | true =>
            go_wp2_with fail
            all_goals go_ret
            all_goals exact ⟨false, rfl, HBT.out.trans (HB2.out.mono HBT.out.size), fun h => by cases h⟩
          | false =>
            go_wp2_with fail
            all_goals go_roundg (ts.length - (q + 1))
            case measure => have h1 := HK.out; have h2 := HLT.out; omega
            case rel =>
              refine ⟨q + 1, HLT.out, rfl, by go_num, HB2.out, fun j h hj h9 => ?_⟩
              by_cases e : j = q
              · subst e
                exact absurd (HTE.out.1.trans h9) HN9.out
              · exact HAL.out j h (by omega) h9
        | false =>
          go_wp2_with fail
          all_goals go_roundg (ts.length - (q + 1))
          case measure => have h1 := HK.out; have h2 := HLT.out; omega
          case rel =>
            refine ⟨q + 1, HLT.out, rfl, by go_num, HB2.out, fun j h hj h9 => ?_⟩
            by_cases e : j = q
            · subst e
              exact absurd (HTE.out.1.trans h9) HN9.out
            · exact HAL.out j h (by omega) h9
    · have hq' : q = ts.length := by omega
      have HALL := Lib.hid (show ∀ j (h : j < ts.length), ts[j].1 = 9 → hasB delWord (byte l ts[j].2.1) = true from fun j h h9 => HAL.out j h (by omega) h9)
      have HBB := Lib.hid (HBT.out.trans (hbel.mono HBT.out.size))
      have HSEL := Lib.hid (show SelT l from by
        obtain ⟨t1, t2, t3, t4⟩ := HA.out
        have hk : ∀ k ∈ ts, Sk k.1 := fun k hk => sel_kind (t3 k hk).1.1 (t3 k hk).1.2 (t3 k hk).2.1
        refine ⟨HT0.out.1, HT0.out.2.1, HT0.out.2.2, ts, t1, t2, fun k hk' => ⟨hk k hk', (t3 k hk').2.2.1 ⟨?_, fun h9 => ?_⟩⟩, ?_⟩
        · have := hk k hk'; unfold Sk at this; omega
        · obtain ⟨j, hj, rfl⟩ := List.mem_iff_getElem.1 hk'
          have := del_byte (HALL.out j hj h9)
          omega
        · have := t4 (fun k hk' => by have := hk k hk'; unfold Sk at this; omega) [] .nil
          rwa [List.take_length, List.append_nil] at this)
      have c0 : wr.cell? ⟨b0, off0, none⟩ = some (.int .u8 (byte l 0)) := by
        have h1 := HL1.out.below (Nat.lt_of_lt_of_le hbb HBT.out.size) hbel
        have := h1 0 hl0
        rwa [Nat.add_zero] at this
      obtain ⟨c, hc⟩ : ∃ c, c = byte l 0 := ⟨_, rfl⟩
      rw [← hc] at c0
      have hst := fun w' => start_any c w' (by rw [hc]; exact byte_lo _ _) (by rw [hc]; exact byte_hi _ _)
      clear hc hbel hq hlt
      subst hq'
      cases hs : isSt c with
      | true =>
        rw [hs] at hst
        go_wp2_with (go_at_call 32; ((with_reducible refine (hst _).mono ?_); rintro e w' ⟨rfl, rfl⟩))
        all_goals go_ret
        all_goals exact ⟨_, rfl, HBB.out, fun _ => HSEL.out⟩
      | false =>
        rw [hs] at hst
        go_wp2_with (go_at_call 32; ((with_reducible refine (hst _).mono ?_); rintro e w' ⟨rfl, rfl⟩))
        all_goals go_ret
        all_goals exact ⟨_, rfl, HBB.out, fun _ => HSEL.out⟩
end Go.Proofs.YtlglijnaeaonpaaGreatDoor.Css
/- The names of at-rules. -/
namespace Go.Proofs.YtlglijnaeaonpaaGreatDoor.Css
open Go.RowKit

def NamesRow (w : World) (s0 s1 s2 : ByteArray) (e : Ending) (w' : World) : Prop :=
  ∃ g, e = .returned (.slice (some ⟨g, 0, none⟩) 3 3) ∧ w'.cell? ⟨g, 0, none⟩ = some (.string s0) ∧ w'.cell? ⟨g, 1, none⟩ = some (.string s1) ∧ w'.cell? ⟨g, 2, none⟩ = some (.string s2) ∧ Below w.heap.size w w'
def sImport : ByteArray := ⟨#[105, 109, 112, 111, 114, 116]⟩
def sCharset : ByteArray := ⟨#[99, 104, 97, 114, 115, 101, 116]⟩
def sNamespace : ByteArray := ⟨#[110, 97, 109, 101, 115, 112, 97, 99, 101]⟩
def sMedia : ByteArray := ⟨#[109, 101, 100, 105, 97]⟩
def sSupports : ByteArray := ⟨#[115, 117, 112, 112, 111, 114, 116, 115]⟩
def sDocument : ByteArray := ⟨#[100, 111, 99, 117, 109, 101, 110, 116]⟩
theorem names35 (w : World) : Calls Tryz.prog 35 #[] w (NamesRow w sImport sCharset sNamespace) := by
  go_enter Tryz.func35, Tryz.ntmps35
  go_wp2
  go_ret
  exact ⟨_, rfl, by rw [World.cell?_alloc_new]; rfl, by rw [World.cell?_alloc_new]; rfl, by rw [World.cell?_alloc_new]; rfl, (Below.refl _ _).alloc (Nat.le_refl _) _⟩
theorem names36 (w : World) : Calls Tryz.prog 36 #[] w (NamesRow w sMedia sSupports sDocument) := by
  go_enter Tryz.func36, Tryz.ntmps36
  go_wp2
  go_ret
  exact ⟨_, rfl, by rw [World.cell?_alloc_new]; rfl, by rw [World.cell?_alloc_new]; rfl, by rw [World.cell?_alloc_new]; rfl, (Below.refl _ _).alloc (Nat.le_refl _) _⟩
theorem toList_strL (l : List UInt8) : (strL l).toList = l := by
  have key : ∀ (k i : Nat) (r : List UInt8), k = l.length - i → i ≤ l.length → ByteArray.toList.loop (strL l) i r = r.reverse ++ l.drop i := by
    intro k
    induction k with
    | zero =>
      intro i r hk hi
      unfold ByteArray.toList.loop
      have hs : (strL l).size = l.length := rfl
      rw [if_neg (by rw [hs]; omega), List.drop_eq_nil_of_le (by omega), List.append_nil]
    | succ k ih =>
      intro i r hk hi
      unfold ByteArray.toList.loop
      have hs : (strL l).size = l.length := rfl
      rw [if_pos (by rw [hs]; omega), ih (i + 1) _ (by omega) (by omega), List.reverse_cons, List.append_assoc]
      congr 1
      rw [List.drop_eq_getElem_cons (by omega : i < l.length)]
      show _ :: _ = _
      congr 1
      show (strL l).get! i = _
      simp [strL, ByteArray.get!, show i < l.length by omega]
  show ByteArray.toList.loop (strL l) 0 [] = l
  rw [key l.length 0 [] rfl (Nat.zero_le _)]; rfl
theorem str_is {c l : List UInt8} (h : (c == (strL l).toList) = true) : l = c := by
  rw [toList_strL, beq_iff_eq] at h; exact h.symm
/-- What the look for a name gives: one of the three that is it, or nothing. -/
def NamePost (w : World) (P : Prop) (e : Ending) (w' : World) : Prop :=
  ∃ s : ByteArray, e = .returned (.string s) ∧ w = w' ∧ ((¬ P ∧ s = ⟨#[]⟩) ∨ (P ∧ (s.toList != []) = true))
def StmtN (l : List UInt8) : Prop := l = sImport.data.toList ∨ l = sCharset.data.toList ∨ l = sNamespace.data.toList
def BlockN (l : List UInt8) : Prop := l = sMedia.data.toList ∨ l = sSupports.data.toList ∨ l = sDocument.data.toList

set_option maxRecDepth 100000 in
set_option maxHeartbeats 2000000 in
theorem nameIn35 (w : World) (v : Value) (l : List UInt8) (h : Slb w v l) (g : Nat) (c0 : w.cell? ⟨g, 0, none⟩ = some (.string sImport)) (c1 : w.cell? ⟨g, 1, none⟩ = some (.string sCharset)) (c2 : w.cell? ⟨g, 2, none⟩ = some (.string sNamespace)) :
    Calls Tryz.prog 34 #[v, .slice (some ⟨g, 0, none⟩) 3 3] w (NamePost w (StmtN l)) := by
  have hcv := conv_slb h
  obtain ⟨a, cap, rfl, _⟩ := h
  unfold sImport at c0
  unfold sCharset at c1
  unfold sNamespace at c2
  cases e0 : ([105, 109, 112, 111, 114, 116] == (strL l).toList) with
  | true =>
    have H := Lib.hid (str_is e0)
    go_enter Tryz.func34, Tryz.ntmps34
    go_wp2
    refine wp_loop_rounds 4 ?_
    rw [rounds_succ]; go_wp2
    go_ret
    exact ⟨_, rfl, rfl, .inr ⟨.inl H.out, by decide +kernel⟩⟩
  | false =>
  cases e1 : ([99, 104, 97, 114, 115, 101, 116] == (strL l).toList) with
  | true =>
    have H := Lib.hid (str_is e1)
    go_enter Tryz.func34, Tryz.ntmps34
    go_wp2
    refine wp_loop_rounds 4 ?_
    rw [rounds_succ]; go_wp2
    rw [rounds_succ]; go_wp2
    go_ret
    exact ⟨_, rfl, rfl, .inr ⟨.inr (.inl H.out), by decide +kernel⟩⟩
  | false =>
  cases e2 : ([110, 97, 109, 101, 115, 112, 97, 99, 101] == (strL l).toList) with
  | true =>
    have H := Lib.hid (str_is e2)
    go_enter Tryz.func34, Tryz.ntmps34
    go_wp2
    refine wp_loop_rounds 4 ?_
    rw [rounds_succ]; go_wp2
    rw [rounds_succ]; go_wp2
    rw [rounds_succ]; go_wp2
    go_ret
    exact ⟨_, rfl, rfl, .inr ⟨.inr (.inr H.out), by decide +kernel⟩⟩
  | false =>
    have HNP := Lib.hid (show ¬ StmtN l from fun h => by
      rw [toList_strL] at e0 e1 e2
      rcases h with h | h | h
      · exact absurd h.symm (beq_eq_false_iff_ne.1 e0)
      · exact absurd h.symm (beq_eq_false_iff_ne.1 e1)
      · exact absurd h.symm (beq_eq_false_iff_ne.1 e2))
    go_enter Tryz.func34, Tryz.ntmps34
    go_wp2
    refine wp_loop_rounds 4 ?_
    rw [rounds_succ]; go_wp2
    rw [rounds_succ]; go_wp2
    rw [rounds_succ]; go_wp2
    rw [rounds_succ]; go_wp2
    go_ret
    exact ⟨_, rfl, rfl, .inl ⟨HNP.out, rfl⟩⟩

set_option maxRecDepth 100000 in
set_option maxHeartbeats 2000000 in
theorem nameIn36 (w : World) (v : Value) (l : List UInt8) (h : Slb w v l) (g : Nat) (c0 : w.cell? ⟨g, 0, none⟩ = some (.string sMedia)) (c1 : w.cell? ⟨g, 1, none⟩ = some (.string sSupports)) (c2 : w.cell? ⟨g, 2, none⟩ = some (.string sDocument)) :
    Calls Tryz.prog 34 #[v, .slice (some ⟨g, 0, none⟩) 3 3] w (NamePost w (BlockN l)) := by
  have hcv := conv_slb h
  obtain ⟨a, cap, rfl, _⟩ := h
  unfold sMedia at c0
  unfold sSupports at c1
  unfold sDocument at c2
  cases e0 : ([109, 101, 100, 105, 97] == (strL l).toList) with
  | true =>
    have H := Lib.hid (str_is e0)
    go_enter Tryz.func34, Tryz.ntmps34
    go_wp2
    refine wp_loop_rounds 4 ?_
    rw [rounds_succ]; go_wp2
    go_ret
    exact ⟨_, rfl, rfl, .inr ⟨.inl H.out, by decide +kernel⟩⟩
  | false =>
  cases e1 : ([115, 117, 112, 112, 111, 114, 116, 115] == (strL l).toList) with
  | true =>
    have H := Lib.hid (str_is e1)
    go_enter Tryz.func34, Tryz.ntmps34
    go_wp2
    refine wp_loop_rounds 4 ?_
    rw [rounds_succ]; go_wp2
    rw [rounds_succ]; go_wp2
    go_ret
    exact ⟨_, rfl, rfl, .inr ⟨.inr (.inl H.out), by decide +kernel⟩⟩
  | false =>
  cases e2 : ([100, 111, 99, 117, 109, 101, 110, 116] == (strL l).toList) with
  | true =>
    have H := Lib.hid (str_is e2)
    go_enter Tryz.func34, Tryz.ntmps34
    go_wp2
    refine wp_loop_rounds 4 ?_
    rw [rounds_succ]; go_wp2
    rw [rounds_succ]; go_wp2
    rw [rounds_succ]; go_wp2
    go_ret
    exact ⟨_, rfl, rfl, .inr ⟨.inr (.inr H.out), by decide +kernel⟩⟩
  | false =>
    have HNP := Lib.hid (show ¬ BlockN l from fun h => by
      rw [toList_strL] at e0 e1 e2
      rcases h with h | h | h
      · exact absurd h.symm (beq_eq_false_iff_ne.1 e0)
      · exact absurd h.symm (beq_eq_false_iff_ne.1 e1)
      · exact absurd h.symm (beq_eq_false_iff_ne.1 e2))
    go_enter Tryz.func34, Tryz.ntmps34
    go_wp2
    refine wp_loop_rounds 4 ?_
    rw [rounds_succ]; go_wp2
    rw [rounds_succ]; go_wp2
    rw [rounds_succ]; go_wp2
    rw [rounds_succ]; go_wp2
    go_ret
    exact ⟨_, rfl, rfl, .inl ⟨HNP.out, rfl⟩⟩
end Go.Proofs.YtlglijnaeaonpaaGreatDoor.Css
/- Whether parts are those of a sheet. -/
namespace Go.Proofs.YtlglijnaeaonpaaGreatDoor.Css
open Go.RowKit

/-- A part of a sheet. -/
inductive PT where
  | mk (kind : ByteArray) (name : List UInt8) (words : List (List UInt8)) (decls : List (List UInt8 × List (List UInt8))) (parts : List PT)
def PT.kind : PT → ByteArray | .mk k _ _ _ _ => k
def PT.name : PT → List UInt8 | .mk _ n _ _ _ => n
def PT.words : PT → List (List UInt8) | .mk _ _ w _ _ => w
def PT.decls : PT → List (List UInt8 × List (List UInt8)) | .mk _ _ _ d _ => d
def PT.parts : PT → List PT | .mk _ _ _ _ p => p
def kRule (p : PT) : Bool := p.kind.toList == [114, 117, 108, 101]
def kAt (p : PT) : Bool := p.kind.toList == [97, 116]
def kBlock (p : PT) : Bool := p.kind.toList == [98, 108, 111, 99, 107]
/-- What is known of one part's texts. -/
structure PMem (w : World) (p : PT) (nv wv dv : Value) : Prop where
  nm : Sl w nv p.name
  ws : WordsMem w wv p.words
  ds : DeclsMem w dv p.decls
  l1 : p.name.length ≤ 2147483648
  l2 : ∀ x ∈ p.words, x.length ≤ 2147483648
  l3 : ∀ d ∈ p.decls, ∀ x ∈ d.2, x.length ≤ 2147483648
theorem PMem.below {w w' : World} {p : PT} {nv wv dv : Value} (h : PMem w p nv wv dv) (hb : Below w.heap.size w w') : PMem w' p nv wv dv :=
  ⟨h.nm.below hb, h.ws.below hb, h.ds.below hb, h.l1, h.l2, h.l3⟩
/-- Parts in memory. -/
inductive PartsMem (w : World) : Value → List PT → Prop where
  | mk (a : Option Addr) (c : Nat) (ps : List PT) (NV WV DV PV : Nat → Value) (g o : Nat) : ps.length ≤ c → c ≤ 140737488351232 → (0 < ps.length → a = some ⟨g, o, none⟩) →
      (∀ i p, ps[i]? = some p → w.cell? ⟨g, o + i * 5, none⟩ = some (.string p.kind) ∧ w.cell? ⟨g, o + i * 5 + 1, none⟩ = some (NV i) ∧ w.cell? ⟨g, o + i * 5 + 2, none⟩ = some (WV i) ∧ w.cell? ⟨g, o + i * 5 + 3, none⟩ = some (DV i) ∧ w.cell? ⟨g, o + i * 5 + 4, none⟩ = some (PV i) ∧ PMem w p (NV i) (WV i) (DV i)) →
      (∀ i p, ps[i]? = some p → PartsMem w (PV i) p.parts) → PartsMem w (.slice a ps.length c) ps
theorem PartsMem.goOn {w w' : World} {v : Value} {ps : List PT} (h : PartsMem w v ps) (hb : Below w.heap.size w w') : PartsMem w' v ps := by
  induction h with
  | mk a c ps NV WV DV PV g o h1 h2 h3 h4 _ ih =>
    refine .mk a c ps NV WV DV PV g o h1 h2 h3 (fun i p hp => ?_) ih
    obtain ⟨c0, c1, c2, c3, c4, hm⟩ := h4 i p hp
    have hl := World.block_lt_of_cell? w _ c0
    exact ⟨(hb.cell (p := ⟨g, o + i * 5, none⟩) hl).trans c0, (hb.cell (p := ⟨g, o + i * 5 + 1, none⟩) hl).trans c1, (hb.cell (p := ⟨g, o + i * 5 + 2, none⟩) hl).trans c2, (hb.cell (p := ⟨g, o + i * 5 + 3, none⟩) hl).trans c3, (hb.cell (p := ⟨g, o + i * 5 + 4, none⟩) hl).trans c4, hm.below hb⟩
theorem PartsMem.shape {w : World} {v : Value} {ps : List PT} (h : PartsMem w v ps) : ∃ a c, v = .slice a ps.length c ∧ ps.length ≤ c ∧ c ≤ 140737488351232 := by
  cases h with
  | mk a c _ _ _ _ _ g o h1 h2 h3 h4 h5 => exact ⟨a, c, rfl, h1, h2⟩
theorem PartsMem.at {w : World} {a : Option Addr} {n c : Nat} {ps : List PT} (h : PartsMem w (.slice a n c) ps) (h0 : 0 < ps.length) : ∃ g o, a = some ⟨g, o, none⟩ ∧ ∀ i (hi : i < ps.length), ∃ nv wv dv pv,
    w.cell? ⟨g, o + i * 5, none⟩ = some (.string ps[i].kind) ∧ w.cell? ⟨g, o + i * 5 + 1, none⟩ = some nv ∧ w.cell? ⟨g, o + i * 5 + 2, none⟩ = some wv ∧ w.cell? ⟨g, o + i * 5 + 3, none⟩ = some dv ∧ w.cell? ⟨g, o + i * 5 + 4, none⟩ = some pv ∧ PMem w ps[i] nv wv dv ∧ PartsMem w pv ps[i].parts := by
  cases h with
  | mk _ _ _ NV WV DV PV g o h1 h2 h3 h4 h5 =>
    refine ⟨g, o, h3 h0, fun i hi => ?_⟩
    have e := List.getElem?_eq_getElem hi
    obtain ⟨c0, c1, c2, c3, c4, hm⟩ := h4 i _ e
    exact ⟨_, _, _, _, c0, c1, c2, c3, c4, hm, h5 i _ e⟩

structure RuleOK (p : PT) : Prop where
  k : kRule p = true
  nm : SelT p.name
  ds : DsOK p.decls
  ws : p.words = []
  ps : p.parts = []
structure AtOK (p : PT) : Prop where
  k : kAt p = true
  nm : StmtN p.name
  ws : p.words ≠ []
  ds : p.decls = []
  ps : p.parts = []
structure BlockOK (p : PT) : Prop where
  k : kBlock p = true
  nm : BlockN p.name
  ws : p.words ≠ []
  ds : p.decls = []
/-- Parts of a sheet of a depth. -/
def PartsOK : Nat → List PT → Prop
  | 0, ps => ps.length ≤ 10 ∧ ∀ p ∈ ps, Vals p.words ∧ (RuleOK p ∨ AtOK p)
  | d + 1, ps => ps.length ≤ 10 ∧ ∀ p ∈ ps, Vals p.words ∧ (RuleOK p ∨ AtOK p ∨ (BlockOK p ∧ PartsOK d p.parts))
def PartOK (d : Nat) (p : PT) : Prop := RuleOK p ∨ AtOK p ∨ (BlockOK p ∧ ∃ d', d = d' + 1 ∧ PartsOK d' p.parts)
theorem PartsOK.mk {d : Nat} {ps : List PT} (h1 : ps.length ≤ 10) (h2 : ∀ p ∈ ps, Vals p.words ∧ PartOK d p) : PartsOK d ps := by
  cases d with
  | zero =>
    refine ⟨h1, fun p hp => ⟨(h2 p hp).1, ?_⟩⟩
    rcases (h2 p hp).2 with h | h | ⟨_, d', h, _⟩
    · exact .inl h
    · exact .inr h
    · omega
  | succ d =>
    refine ⟨h1, fun p hp => ⟨(h2 p hp).1, ?_⟩⟩
    rcases (h2 p hp).2 with h | h | ⟨h, d', h3, h4⟩
    · exact .inl h
    · exact .inr (.inl h)
    · obtain rfl : d = d' := by omega
      exact .inr (.inr ⟨h, h4⟩)
def BPost (w : World) (P : Prop) (e : Ending) (w' : World) : Prop := ∃ r, e = .returned (.bool r) ∧ Below w.heap.size w w' ∧ (r = true → P)
/-- The look at parts of a depth. -/
def AreP (d : Nat) : Prop := ∀ (w : World) (v : Value) (ps : List PT), PartsMem w v ps → Utab w → Calls Tryz.prog 5 #[v, .int .i64 d] w (BPost w (PartsOK d ps))

set_option maxRecDepth 100000 in
set_option maxHeartbeats 4000000 in
theorem part_rule (d : Nat) (w : World) (p : PT) (nv wv dv pv : Value) (hm : PMem w p nv wv dv) (hp : PartsMem w pv p.parts) (hU : Utab w) (hk : (p.kind.toList == [114, 117, 108, 101]) = true) :
    Calls Tryz.prog 15 #[.agg #[.string p.kind, nv, wv, dv, pv], .int .i64 d] w (BPost w (PartOK d p)) := by
  obtain ⟨na, nc, rfl, _, _, _⟩ := id hm.nm
  obtain ⟨wa, wc0, rfl, hw1, hw2, _⟩ := id hm.ws
  obtain ⟨da, dc, rfl, hd1, hd2, _⟩ := id hm.ds
  obtain ⟨pa, pc, rfl, hp1, hp2⟩ := hp.shape
  have HMM := Lib.hid (show _ ∧ _ ∧ _ from ⟨hm, hp, hU⟩)
  obtain ⟨n1, hn1⟩ : ∃ n1, n1 = p.words.length := ⟨_, rfl⟩
  obtain ⟨n2, hn2⟩ : ∃ n2, n2 = p.parts.length := ⟨_, rfl⟩
  obtain ⟨n3, hn3⟩ : ∃ n3, n3 = p.decls.length := ⟨_, rfl⟩
  obtain ⟨n0, hn0⟩ : ∃ n0, n0 = p.name.length := ⟨_, rfl⟩
  obtain ⟨kk, hkk⟩ : ∃ kk, kk = p.kind := ⟨_, rfl⟩
  have HN := Lib.hid (show _ ∧ _ ∧ _ ∧ _ from ⟨hn1, hn2, hn3, hn0⟩)
  rw [← hn1] at hw1
  rw [← hn2] at hp1
  rw [← hn3] at hd1
  rw [← hn1, ← hn2, ← hn3, ← hn0, ← hkk]
  rw [← hkk] at hk
  have HK := Lib.hid hkk
  clear hm hp hU hn1 hn2 hn3 hn0 hkk
  go_enter Tryz.func15, Tryz.ntmps15
  go_upto_region 0 with fail
  go_cut [2] (fun s wx => ∃ tg, s = .pointer (some ⟨tg, 0, none⟩) ∧ wx.cell? ⟨tg, 0, none⟩ = some (.string kk) ∧ wx.cell? ⟨tg, 1, none⟩ = some (.slice na n0 nc) ∧ wx.cell? ⟨tg, 2, none⟩ = some (.slice wa n1 wc0) ∧ wx.cell? ⟨tg, 3, none⟩ = some (.slice da n3 dc) ∧ wx.cell? ⟨tg, 4, none⟩ = some (.slice pa n2 pc) ∧ tg < wx.heap.size ∧ Below w.heap.size w wx)
  case first =>
    have hb := (Below.refl w.heap.size w).alloc (Nat.le_refl _)
    go_wp2_with fail
    go_meet
    exact ⟨_, rfl, by rw [World.cell?_alloc_new]; rfl, by rw [World.cell?_alloc_new]; rfl, by rw [World.cell?_alloc_new]; rfl, by rw [World.cell?_alloc_new]; rfl, by rw [World.cell?_alloc_new]; rfl, by simp, hb _⟩
  case rest =>
  obtain ⟨tg, rfl, c0, c1, c2, c3, c4, htg, hbx⟩ := hcut
  have hsel := isSelector_any wc _ _ (HMM.out.1.nm.below hbx) (HMM.out.2.2.below HMM.out.2.2.lt hbx) HMM.out.1.l1
  rw [← HN.out.2.2.2] at hsel
  have hdec := fun w' (hb : Below w.heap.size w w') => areDecls_any w' _ _ (HMM.out.1.ds.below hb) (HMM.out.2.2.below HMM.out.2.2.lt hb) HMM.out.1.l3
  rw [← HN.out.2.2.1] at hdec
  have HDC := Lib.hid hdec
  have s1 : IntKind.i64.wrap ((n1 : Int) + (n2 : Int)) = (n1 : Int) + (n2 : Int) := IntWalk.i64_in _ (by omega)
  have HKR := Lib.hid hk
  clear hdec
  by_cases hs : SelT p.name
  · by_cases hd : DsOK p.decls
    · by_cases hz : n1 = 0 ∧ n2 = 0
      · obtain ⟨rfl, rfl⟩ := hz
        have HR := Lib.hid (show PartOK d p from .inl ⟨by unfold kRule; rw [← HK.out]; exact HKR.out, hs, hd, List.eq_nil_of_length_eq_zero HN.out.1.symm, List.eq_nil_of_length_eq_zero HN.out.2.1.symm⟩)
        clear hs hd hw1 hp1
        go_wp2_with (first | (go_at_call 33; ((with_reducible refine hsel.mono ?_); rintro e w1 ⟨r, rfl, hb1, hr1⟩; have hbA := hbx.trans (hb1.mono hbx.size); have hdec := HDC.out _ hbA; have m1 := (hb1.cell (p := ⟨tg, 1, none⟩) htg).trans c1; have m2 := (hb1.cell (p := ⟨tg, 2, none⟩) htg).trans c2; have m3 := (hb1.cell (p := ⟨tg, 3, none⟩) htg).trans c3; have m4 := (hb1.cell (p := ⟨tg, 4, none⟩) htg).trans c4; have htg1 := Nat.lt_of_lt_of_le htg hb1.size; clear hr1)) | (go_at_call 11; ((with_reducible refine hdec.mono ?_); rintro e w2 ⟨r2, rfl, hb2, hr2⟩; have hbB := hbA.trans (hb2.mono hbA.size); have q2 := (hb2.cell (p := ⟨tg, 2, none⟩) htg1).trans m2; have q4 := (hb2.cell (p := ⟨tg, 4, none⟩) htg1).trans m4; clear hr2)))
        all_goals go_ret
        all_goals exact ⟨_, rfl, by first | exact hbB | exact hbA, fun _ => HR.out⟩
      · have hz1 : ((n1 : Int) + (n2 : Int) == 0) = false := beq_eq_false_iff_ne.2 (by omega)
        have hz2 : ¬ (n1 : Int) + (n2 : Int) = 0 := by omega
        clear hs hd hz
        go_wp2_with (first | (go_at_call 33; ((with_reducible refine hsel.mono ?_); rintro e w1 ⟨r, rfl, hb1, hr1⟩; have hbA := hbx.trans (hb1.mono hbx.size); have hdec := HDC.out _ hbA; have m1 := (hb1.cell (p := ⟨tg, 1, none⟩) htg).trans c1; have m2 := (hb1.cell (p := ⟨tg, 2, none⟩) htg).trans c2; have m3 := (hb1.cell (p := ⟨tg, 3, none⟩) htg).trans c3; have m4 := (hb1.cell (p := ⟨tg, 4, none⟩) htg).trans c4; have htg1 := Nat.lt_of_lt_of_le htg hb1.size; clear hr1)) | (go_at_call 11; ((with_reducible refine hdec.mono ?_); rintro e w2 ⟨r2, rfl, hb2, hr2⟩; have hbB := hbA.trans (hb2.mono hbA.size); have q2 := (hb2.cell (p := ⟨tg, 2, none⟩) htg1).trans m2; have q4 := (hb2.cell (p := ⟨tg, 4, none⟩) htg1).trans m4; clear hr2)))
        all_goals go_ret
        all_goals exact ⟨_, rfl, by first | exact hbB | exact hbA, fun h => by first | cases h | (simp at h; done)⟩
    · have HS := Lib.hid hd
      have hz0 := Bool.eq_false_or_eq_true (((n1 : Int) + (n2 : Int) == 0))
      clear hs hd hz0
      go_wp2_with (first | (go_at_call 33; ((with_reducible refine hsel.mono ?_); rintro e w1 ⟨r, rfl, hb1, hr1⟩; have hbA := hbx.trans (hb1.mono hbx.size); have hdec := HDC.out _ hbA; have m1 := (hb1.cell (p := ⟨tg, 1, none⟩) htg).trans c1; have m2 := (hb1.cell (p := ⟨tg, 2, none⟩) htg).trans c2; have m3 := (hb1.cell (p := ⟨tg, 3, none⟩) htg).trans c3; have m4 := (hb1.cell (p := ⟨tg, 4, none⟩) htg).trans c4; have htg1 := Nat.lt_of_lt_of_le htg hb1.size; clear hr1)) | (go_at_call 11; ((with_reducible refine hdec.mono ?_); rintro e w2 ⟨r2, rfl, hb2, hr2⟩; have hbB := hbA.trans (hb2.mono hbA.size); have q2 := (hb2.cell (p := ⟨tg, 2, none⟩) htg1).trans m2; have q4 := (hb2.cell (p := ⟨tg, 4, none⟩) htg1).trans m4; obtain rfl : r2 = false := (by cases r2 with | false => rfl | true => exact absurd (hr2 rfl) HS.out); clear hr2)))
      all_goals go_ret
      all_goals exact ⟨_, rfl, by first | exact hbB | exact hbA, fun h => by first | cases h | (simp at h; done)⟩
  · have HS := Lib.hid hs
    clear hs
    go_wp2_with (first | (go_at_call 33; ((with_reducible refine hsel.mono ?_); rintro e w1 ⟨r, rfl, hb1, hr1⟩; have hbA := hbx.trans (hb1.mono hbx.size); have hdec := HDC.out _ hbA; have m1 := (hb1.cell (p := ⟨tg, 1, none⟩) htg).trans c1; have m2 := (hb1.cell (p := ⟨tg, 2, none⟩) htg).trans c2; have m3 := (hb1.cell (p := ⟨tg, 3, none⟩) htg).trans c3; have m4 := (hb1.cell (p := ⟨tg, 4, none⟩) htg).trans c4; have htg1 := Nat.lt_of_lt_of_le htg hb1.size; obtain rfl : r = false := (by cases r with | false => rfl | true => exact absurd (hr1 rfl) HS.out); clear hr1)) | (go_at_call 11; ((with_reducible refine hdec.mono ?_); rintro e w2 ⟨r2, rfl, hb2, hr2⟩; have hbB := hbA.trans (hb2.mono hbA.size); have q2 := (hb2.cell (p := ⟨tg, 2, none⟩) htg1).trans m2; have q4 := (hb2.cell (p := ⟨tg, 4, none⟩) htg1).trans m4; clear hr2)))
    all_goals go_ret
    all_goals exact ⟨_, rfl, by first | exact hbB | exact hbA, fun h => by first | cases h | (simp at h; done)⟩

set_option maxRecDepth 100000 in
set_option maxHeartbeats 4000000 in
theorem part_at (d : Nat) (w : World) (p : PT) (nv wv dv pv : Value) (hm : PMem w p nv wv dv) (hp : PartsMem w pv p.parts) (hU : Utab w) (hk : (p.kind.toList == [97, 116]) = true) :
    Calls Tryz.prog 15 #[.agg #[.string p.kind, nv, wv, dv, pv], .int .i64 d] w (BPost w (PartOK d p)) := by
  obtain ⟨na, nc, rfl, _, _, _⟩ := id hm.nm
  obtain ⟨wa, wc0, rfl, hw1, hw2, _⟩ := id hm.ws
  obtain ⟨da, dc, rfl, hd1, hd2, _⟩ := id hm.ds
  obtain ⟨pa, pc, rfl, hp1, hp2⟩ := hp.shape
  have HMM := Lib.hid (show _ ∧ _ ∧ _ from ⟨hm, hp, hU⟩)
  obtain ⟨n1, hn1⟩ : ∃ n1, n1 = p.words.length := ⟨_, rfl⟩
  obtain ⟨n2, hn2⟩ : ∃ n2, n2 = p.parts.length := ⟨_, rfl⟩
  obtain ⟨n3, hn3⟩ : ∃ n3, n3 = p.decls.length := ⟨_, rfl⟩
  obtain ⟨n0, hn0⟩ : ∃ n0, n0 = p.name.length := ⟨_, rfl⟩
  obtain ⟨kk, hkk⟩ : ∃ kk, kk = p.kind := ⟨_, rfl⟩
  have HN := Lib.hid (show _ ∧ _ ∧ _ ∧ _ from ⟨hn1, hn2, hn3, hn0⟩)
  rw [← hn1] at hw1
  rw [← hn2] at hp1
  rw [← hn3] at hd1
  rw [← hn1, ← hn2, ← hn3, ← hn0, ← hkk]
  rw [← hkk] at hk
  have HK := Lib.hid hkk
  clear hm hp hU hn1 hn2 hn3 hn0 hkk
  go_enter Tryz.func15, Tryz.ntmps15
  go_upto_region 0 with fail
  go_cut [2] (fun s wx => ∃ tg, s = .pointer (some ⟨tg, 0, none⟩) ∧ wx.cell? ⟨tg, 0, none⟩ = some (.string kk) ∧ wx.cell? ⟨tg, 1, none⟩ = some (.slice na n0 nc) ∧ wx.cell? ⟨tg, 2, none⟩ = some (.slice wa n1 wc0) ∧ wx.cell? ⟨tg, 3, none⟩ = some (.slice da n3 dc) ∧ wx.cell? ⟨tg, 4, none⟩ = some (.slice pa n2 pc) ∧ tg < wx.heap.size ∧ Below w.heap.size w wx)
  case first =>
    have hb := (Below.refl w.heap.size w).alloc (Nat.le_refl _)
    go_wp2_with fail
    go_meet
    exact ⟨_, rfl, by rw [World.cell?_alloc_new]; rfl, by rw [World.cell?_alloc_new]; rfl, by rw [World.cell?_alloc_new]; rfl, by rw [World.cell?_alloc_new]; rfl, by rw [World.cell?_alloc_new]; rfl, by simp, hb _⟩
  case rest =>
  obtain ⟨tg, rfl, c0, c1, c2, c3, c4, htg, hbx⟩ := hcut
  have hk0 : (kk.toList == [114, 117, 108, 101]) = false := by rw [beq_iff_eq.1 hk]; decide
  have hni := fun w' (hb : Below wc.heap.size wc w') g a b c => nameIn35 w' _ _ ((HMM.out.1.nm.below (hbx.trans (hb.mono hbx.size))).slb) g a b c
  rw [← HN.out.2.2.2] at hni
  have HNI := Lib.hid hni
  have s1 : IntKind.i64.wrap ((n3 : Int) + (n2 : Int)) = (n3 : Int) + (n2 : Int) := IntWalk.i64_in _ (by omega)
  have HKR := Lib.hid hk
  clear hni
  go_upto_region 5 with fail
  by_cases hs : StmtN p.name
  · have HS := Lib.hid hs
    clear hs
    by_cases hw0 : n1 = 0
    · have d1 : decide ((0 : Int) < (n1 : Int)) = false := decide_eq_false (by omega)
      have d2 : decide (0 < n1) = false := decide_eq_false (by omega)
      have d3 : ¬ (0 : Int) < (n1 : Int) := by omega
      clear hw0
      refine wp_region_held_drew (S := fun w' => w'.cell? ⟨tg, 1, none⟩ = some (.slice na n0 nc) ∧ w'.cell? ⟨tg, 2, none⟩ = some (.slice wa n1 wc0) ∧ w'.cell? ⟨tg, 3, none⟩ = some (.slice da n3 dc) ∧ w'.cell? ⟨tg, 4, none⟩ = some (.slice pa n2 pc) ∧ Below wc.heap.size wc w') (by kernel_rfl) ?_ (fun hHeld => ?_)
      · exact ⟨c1, c2, c3, c4, (Below.refl _ _).drew⟩
      refine wpAnyH_take (i := 0) (v := ?_) rfl (by kernel_rfl) (by kernel_rfl) (by kernel_rfl) (fun _ _ _ h => h) (Or.inl ⟨by kernel_rfl, ?_⟩) (by assumption) ?_
      rotate_left
      · (intro w' hSw; (try dsimp only at hSw); go_simp); try with_reducible rfl
      go_simp
      refine wpAnyH_take (i := 1) (v := ?_) rfl (by kernel_rfl) (by kernel_rfl) (by kernel_rfl) (fun _ _ _ h => h) (Or.inl ⟨by kernel_rfl, ?_⟩) (by assumption) ?_
      rotate_left
      · (intro w' hSw; (try dsimp only at hSw); go_simp); try with_reducible rfl
      go_simp
      refine wpAnyH_ready (rs := [2]) (by kernel_rfl) (by simp) ?_
      refine AllReadyH.cons rfl (fun K hK => ?_) AllReadyH.nil
      go_simp
      refine (names35 _).mono ?_
      rintro e w1 ⟨g, rfl, e0, e1, e2, hb0⟩
      have hb1 : Below wc.heap.size wc w1 := ((Below.refl wc.heap.size wc).drew).trans hb0
      have hni := HNI.out _ hb1 g e0 e1 e2
      have hS1 : w1.cell? ⟨tg, 1, none⟩ = some (.slice na n0 nc) ∧ w1.cell? ⟨tg, 2, none⟩ = some (.slice wa n1 wc0) ∧ w1.cell? ⟨tg, 3, none⟩ = some (.slice da n3 dc) ∧ w1.cell? ⟨tg, 4, none⟩ = some (.slice pa n2 pc) ∧ Below wc.heap.size wc w1 := ⟨(hb1.cell (p := ⟨tg, 1, none⟩) htg).trans c1, (hb1.cell (p := ⟨tg, 2, none⟩) htg).trans c2, (hb1.cell (p := ⟨tg, 3, none⟩) htg).trans c3, (hb1.cell (p := ⟨tg, 4, none⟩) htg).trans c4, hb1⟩
      refine hK.out _ _ ?_ (fun hHeld => ?_)
      · exact hS1
      clear hK K
      go_simp
      refine wpAnyH_ready (rs := [3]) (by kernel_rfl) (by simp) ?_
      refine AllReadyH.cons rfl (fun K hK => ?_) AllReadyH.nil
      go_simp
      refine hni.mono ?_
      rintro e w2 ⟨s, rfl, rfl, hs⟩
      have hs3 : s.toList.isEmpty = false := (by rcases hs with hs | hs; exact absurd HS.out hs.1; (have hq := hs.2; cases hl : s.toList with | nil => (rw [hl] at hq; cases hq) | cons _ _ => rfl))
      clear hs
      refine hK.out _ _ ?_ (fun hHeld => ?_)
      · exact hS1
      clear hK K
      go_simp
      refine wpAnyH_take (i := 4) (v := ?_) rfl (by kernel_rfl) (by kernel_rfl) (by kernel_rfl) (fun _ _ _ h => h) (Or.inl ⟨by kernel_rfl, ?_⟩) (by assumption) ?_
      rotate_left
      · (intro w' hSw; (try dsimp only at hSw); go_simp); try with_reducible rfl
      go_simp
      refine wpAnyH_take (i := 5) (v := ?_) rfl (by kernel_rfl) (by kernel_rfl) (by kernel_rfl) (fun _ _ _ h => h) (Or.inl ⟨by kernel_rfl, ?_⟩) (by assumption) ?_
      rotate_left
      · (intro w' hSw; (try dsimp only at hSw); go_simp); try with_reducible rfl
      go_simp
      refine wpAnyH_take (i := 6) (v := ?_) rfl (by kernel_rfl) (by kernel_rfl) (by kernel_rfl) (fun _ _ _ h => h) (Or.inl ⟨by kernel_rfl, ?_⟩) (by assumption) ?_
      rotate_left
      · (intro w' hSw; (try dsimp only at hSw); go_simp); try with_reducible rfl
      go_simp
      refine wpAnyH_take (i := 7) (v := ?_) rfl (by kernel_rfl) (by kernel_rfl) (by kernel_rfl) (fun _ _ _ h => h) (Or.inl ⟨by kernel_rfl, ?_⟩) (by assumption) ?_
      rotate_left
      · (intro w' hSw; (try dsimp only at hSw); go_simp); try with_reducible rfl
      go_simp
      refine wpAnyH_take (i := 8) (v := ?_) rfl (by kernel_rfl) (by kernel_rfl) (by kernel_rfl) (fun _ _ _ h => h) (Or.inl ⟨by kernel_rfl, ?_⟩) (by assumption) ?_
      rotate_left
      · (intro w' hSw; (try dsimp only at hSw); go_simp); try with_reducible rfl
      go_simp
      refine wpAnyH_take (i := 9) (v := ?_) rfl (by kernel_rfl) (by kernel_rfl) (by kernel_rfl) (fun _ _ _ h => h) (Or.inl ⟨by kernel_rfl, ?_⟩) (by assumption) ?_
      rotate_left
      · (intro w' hSw; (try dsimp only at hSw); go_simp); try with_reducible rfl
      go_simp
      refine wpAnyH_take (i := 10) (v := ?_) rfl (by kernel_rfl) (by kernel_rfl) (by kernel_rfl) (fun _ _ _ h => h) (Or.inl ⟨by kernel_rfl, ?_⟩) (by assumption) ?_
      rotate_left
      · (intro w' hSw; (try dsimp only at hSw); go_simp); try with_reducible rfl
      go_simp
      refine wpAnyH_take (i := 11) (v := ?_) rfl (by kernel_rfl) (by kernel_rfl) (by kernel_rfl) (fun _ _ _ h => h) (Or.inl ⟨by kernel_rfl, ?_⟩) (by assumption) ?_
      rotate_left
      · (intro w' hSw; (try dsimp only at hSw); go_simp); try with_reducible rfl
      go_simp
      refine wpAnyH_take (i := 12) (v := undef) rfl (by kernel_rfl) (by kernel_rfl) (by kernel_rfl) (fun _ _ _ h => h) (Or.inr ⟨by kernel_rfl, rfl⟩) (by assumption) ?_
      go_simp
      refine wpAnyH_take (i := 13) (v := undef) rfl (by kernel_rfl) (by kernel_rfl) (by kernel_rfl) (fun _ _ _ h => h) (Or.inr ⟨by kernel_rfl, rfl⟩) (by assumption) ?_
      go_simp
      refine wpAnyH_take (i := 14) (v := undef) rfl (by kernel_rfl) (by kernel_rfl) (by kernel_rfl) (fun _ _ _ h => h) (Or.inr ⟨by kernel_rfl, rfl⟩) (by assumption) ?_
      go_simp
      refine wpAnyH_take (i := 15) (v := undef) rfl (by kernel_rfl) (by kernel_rfl) (by kernel_rfl) (fun _ _ _ h => h) (Or.inr ⟨by kernel_rfl, rfl⟩) (by assumption) ?_
      go_simp
      refine wpAnyH_take (i := 16) (v := undef) rfl (by kernel_rfl) (by kernel_rfl) (by kernel_rfl) (fun _ _ _ h => h) (Or.inr ⟨by kernel_rfl, rfl⟩) (by assumption) ?_
      go_simp
      refine wpAnyH_take (i := 17) (v := undef) rfl (by kernel_rfl) (by kernel_rfl) (by kernel_rfl) (fun _ _ _ h => h) (Or.inr ⟨by kernel_rfl, rfl⟩) (by assumption) ?_
      go_simp
      refine wpAnyH_take (i := 18) (v := undef) rfl (by kernel_rfl) (by kernel_rfl) (by kernel_rfl) (fun _ _ _ h => h) (Or.inr ⟨by kernel_rfl, rfl⟩) (by assumption) ?_
      go_simp
      refine wpAnyH_take (i := 19) (v := undef) rfl (by kernel_rfl) (by kernel_rfl) (by kernel_rfl) (fun _ _ _ h => h) (Or.inr ⟨by kernel_rfl, rfl⟩) (by assumption) ?_
      go_simp
      refine wpAnyH_take (i := 20) (v := ?_) rfl (by kernel_rfl) (by kernel_rfl) (by kernel_rfl) (fun _ _ _ h => h) (Or.inl ⟨by kernel_rfl, ?_⟩) (by assumption) ?_
      rotate_left
      · (intro w' hSw; (try dsimp only at hSw); go_simp); try with_reducible rfl
      go_simp
      refine wpAnyH_take (i := 21) (v := ?_) rfl (by kernel_rfl) (by kernel_rfl) (by kernel_rfl) (fun _ _ _ h => h) (Or.inl ⟨by kernel_rfl, ?_⟩) (by assumption) ?_
      rotate_left
      · (intro w' hSw; (try dsimp only at hSw); go_simp); try with_reducible rfl
      go_simp
      refine wpAnyH_done (by kernel_rfl) ?_ _
      all_goals go_wp2
      all_goals go_ret
      all_goals exact ⟨_, rfl, hbx.trans (hS1.2.2.2.2.mono hbx.size), fun h => by first | cases h | (simp at h; done)⟩
    · have d1 : decide ((0 : Int) < (n1 : Int)) = true := decide_eq_true (by omega)
      have d2 : decide (0 < n1) = true := decide_eq_true (by omega)
      have d3 : (0 : Int) < (n1 : Int) := by omega
      by_cases hz : n3 = 0 ∧ n2 = 0
      · have HR := Lib.hid (show PartOK d p from .inr (.inl ⟨by unfold kAt; rw [← HK.out]; exact HKR.out, HS.out, fun e => hw0 (HN.out.1.trans (by rw [e]; rfl)), List.eq_nil_of_length_eq_zero (HN.out.2.2.1.symm.trans hz.1), List.eq_nil_of_length_eq_zero (HN.out.2.1.symm.trans hz.2)⟩))
        have hz1 : ((n3 : Int) + (n2 : Int) == 0) = true := beq_iff_eq.2 (by omega)
        clear hw0 hz
        go_region_held3 (fun w' => w'.cell? ⟨tg, 1, none⟩ = some (.slice na n0 nc) ∧ w'.cell? ⟨tg, 2, none⟩ = some (.slice wa n1 wc0) ∧ w'.cell? ⟨tg, 3, none⟩ = some (.slice da n3 dc) ∧ w'.cell? ⟨tg, 4, none⟩ = some (.slice pa n2 pc) ∧ Below wc.heap.size wc w') (first | exact ⟨c1, c2, c3, c4, (Below.refl _ _).drew⟩ | exact hS1 | exact hS2) (first | (go_at_call 35; ((with_reducible refine (names35 _).mono ?_); rintro e w1 ⟨g, rfl, e0, e1, e2, hb0⟩; have hb1 : Below wc.heap.size wc w1 := ((Below.refl wc.heap.size wc).drew).trans hb0; have hni := HNI.out _ hb1 g e0 e1 e2; have hS1 : w1.cell? ⟨tg, 1, none⟩ = some (.slice na n0 nc) ∧ w1.cell? ⟨tg, 2, none⟩ = some (.slice wa n1 wc0) ∧ w1.cell? ⟨tg, 3, none⟩ = some (.slice da n3 dc) ∧ w1.cell? ⟨tg, 4, none⟩ = some (.slice pa n2 pc) ∧ Below wc.heap.size wc w1 := ⟨(hb1.cell (p := ⟨tg, 1, none⟩) htg).trans c1, (hb1.cell (p := ⟨tg, 2, none⟩) htg).trans c2, (hb1.cell (p := ⟨tg, 3, none⟩) htg).trans c3, (hb1.cell (p := ⟨tg, 4, none⟩) htg).trans c4, hb1⟩)) | (go_at_call 34; ((with_reducible refine hni.mono ?_); rintro e w2 ⟨s, rfl, rfl, hs⟩; have hs3 : s.toList.isEmpty = false := (by rcases hs with hs | hs; exact absurd HS.out hs.1; (have hq := hs.2; cases hl : s.toList with | nil => (rw [hl] at hq; cases hq) | cons _ _ => rfl)); clear hs)))
        all_goals go_wp2
        all_goals go_ret
        all_goals exact ⟨_, rfl, hbx.trans (hS1.2.2.2.2.mono hbx.size), fun _ => HR.out⟩
      · have hz1 : ((n3 : Int) + (n2 : Int) == 0) = false := beq_eq_false_iff_ne.2 (by omega)
        have hz2 : ¬ (n3 : Int) + (n2 : Int) = 0 := by omega
        clear hw0 hz
        go_region_held3 (fun w' => w'.cell? ⟨tg, 1, none⟩ = some (.slice na n0 nc) ∧ w'.cell? ⟨tg, 2, none⟩ = some (.slice wa n1 wc0) ∧ w'.cell? ⟨tg, 3, none⟩ = some (.slice da n3 dc) ∧ w'.cell? ⟨tg, 4, none⟩ = some (.slice pa n2 pc) ∧ Below wc.heap.size wc w') (first | exact ⟨c1, c2, c3, c4, (Below.refl _ _).drew⟩ | exact hS1 | exact hS2) (first | (go_at_call 35; ((with_reducible refine (names35 _).mono ?_); rintro e w1 ⟨g, rfl, e0, e1, e2, hb0⟩; have hb1 : Below wc.heap.size wc w1 := ((Below.refl wc.heap.size wc).drew).trans hb0; have hni := HNI.out _ hb1 g e0 e1 e2; have hS1 : w1.cell? ⟨tg, 1, none⟩ = some (.slice na n0 nc) ∧ w1.cell? ⟨tg, 2, none⟩ = some (.slice wa n1 wc0) ∧ w1.cell? ⟨tg, 3, none⟩ = some (.slice da n3 dc) ∧ w1.cell? ⟨tg, 4, none⟩ = some (.slice pa n2 pc) ∧ Below wc.heap.size wc w1 := ⟨(hb1.cell (p := ⟨tg, 1, none⟩) htg).trans c1, (hb1.cell (p := ⟨tg, 2, none⟩) htg).trans c2, (hb1.cell (p := ⟨tg, 3, none⟩) htg).trans c3, (hb1.cell (p := ⟨tg, 4, none⟩) htg).trans c4, hb1⟩)) | (go_at_call 34; ((with_reducible refine hni.mono ?_); rintro e w2 ⟨s, rfl, rfl, hs⟩; have hs3 : s.toList.isEmpty = false := (by rcases hs with hs | hs; exact absurd HS.out hs.1; (have hq := hs.2; cases hl : s.toList with | nil => (rw [hl] at hq; cases hq) | cons _ _ => rfl)); clear hs)))
        all_goals go_wp2
        all_goals go_ret
        all_goals exact ⟨_, rfl, hbx.trans (hS1.2.2.2.2.mono hbx.size), fun h => by first | cases h | (simp at h; done)⟩
  · have HS := Lib.hid hs
    clear hs
    refine wp_region_held_drew (S := fun w' => w'.cell? ⟨tg, 1, none⟩ = some (.slice na n0 nc) ∧ w'.cell? ⟨tg, 2, none⟩ = some (.slice wa n1 wc0) ∧ w'.cell? ⟨tg, 3, none⟩ = some (.slice da n3 dc) ∧ w'.cell? ⟨tg, 4, none⟩ = some (.slice pa n2 pc) ∧ Below wc.heap.size wc w') (by kernel_rfl) ?_ (fun hHeld => ?_)
    · exact ⟨c1, c2, c3, c4, (Below.refl _ _).drew⟩
    refine wpAnyH_take (i := 0) (v := ?_) rfl (by kernel_rfl) (by kernel_rfl) (by kernel_rfl) (fun _ _ _ h => h) (Or.inl ⟨by kernel_rfl, ?_⟩) (by assumption) ?_
    rotate_left
    · (intro w' hSw; (try dsimp only at hSw); go_simp); try with_reducible rfl
    go_simp
    refine wpAnyH_take (i := 1) (v := ?_) rfl (by kernel_rfl) (by kernel_rfl) (by kernel_rfl) (fun _ _ _ h => h) (Or.inl ⟨by kernel_rfl, ?_⟩) (by assumption) ?_
    rotate_left
    · (intro w' hSw; (try dsimp only at hSw); go_simp); try with_reducible rfl
    go_simp
    refine wpAnyH_ready (rs := [2]) (by kernel_rfl) (by simp) ?_
    refine AllReadyH.cons rfl (fun K hK => ?_) AllReadyH.nil
    go_simp
    refine (names35 _).mono ?_
    rintro e w1 ⟨g, rfl, e0, e1, e2, hb0⟩
    have hb1 : Below wc.heap.size wc w1 := ((Below.refl wc.heap.size wc).drew).trans hb0
    have hni := HNI.out _ hb1 g e0 e1 e2
    have hS1 : w1.cell? ⟨tg, 1, none⟩ = some (.slice na n0 nc) ∧ w1.cell? ⟨tg, 2, none⟩ = some (.slice wa n1 wc0) ∧ w1.cell? ⟨tg, 3, none⟩ = some (.slice da n3 dc) ∧ w1.cell? ⟨tg, 4, none⟩ = some (.slice pa n2 pc) ∧ Below wc.heap.size wc w1 := ⟨(hb1.cell (p := ⟨tg, 1, none⟩) htg).trans c1, (hb1.cell (p := ⟨tg, 2, none⟩) htg).trans c2, (hb1.cell (p := ⟨tg, 3, none⟩) htg).trans c3, (hb1.cell (p := ⟨tg, 4, none⟩) htg).trans c4, hb1⟩
    refine hK.out _ _ ?_ (fun hHeld => ?_)
    · exact hS1
    clear hK K
    go_simp
    refine wpAnyH_ready (rs := [3]) (by kernel_rfl) (by simp) ?_
    refine AllReadyH.cons rfl (fun K hK => ?_) AllReadyH.nil
    go_simp
    refine hni.mono ?_
    rintro e w2 ⟨s, rfl, rfl, hs⟩
    have hs3 : s.toList.isEmpty = true := (by rcases hs with hs | hs; (rw [hs.2]; decide +kernel); exact absurd hs.1 HS.out)
    clear hs
    refine hK.out _ _ ?_ (fun hHeld => ?_)
    · exact hS1
    clear hK K
    go_simp
    refine wpAnyH_take (i := 4) (v := ?_) rfl (by kernel_rfl) (by kernel_rfl) (by kernel_rfl) (fun _ _ _ h => h) (Or.inl ⟨by kernel_rfl, ?_⟩) (by assumption) ?_
    rotate_left
    · (intro w' hSw; (try dsimp only at hSw); go_simp); try with_reducible rfl
    go_simp
    refine wpAnyH_take (i := 5) (v := ?_) rfl (by kernel_rfl) (by kernel_rfl) (by kernel_rfl) (fun _ _ _ h => h) (Or.inl ⟨by kernel_rfl, ?_⟩) (by assumption) ?_
    rotate_left
    · (intro w' hSw; (try dsimp only at hSw); go_simp); try with_reducible rfl
    go_simp
    refine wpAnyH_take (i := 6) (v := undef) rfl (by kernel_rfl) (by kernel_rfl) (by kernel_rfl) (fun _ _ _ h => h) (Or.inr ⟨by kernel_rfl, rfl⟩) (by assumption) ?_
    go_simp
    refine wpAnyH_take (i := 7) (v := undef) rfl (by kernel_rfl) (by kernel_rfl) (by kernel_rfl) (fun _ _ _ h => h) (Or.inr ⟨by kernel_rfl, rfl⟩) (by assumption) ?_
    go_simp
    refine wpAnyH_take (i := 8) (v := undef) rfl (by kernel_rfl) (by kernel_rfl) (by kernel_rfl) (fun _ _ _ h => h) (Or.inr ⟨by kernel_rfl, rfl⟩) (by assumption) ?_
    go_simp
    refine wpAnyH_take (i := 9) (v := undef) rfl (by kernel_rfl) (by kernel_rfl) (by kernel_rfl) (fun _ _ _ h => h) (Or.inr ⟨by kernel_rfl, rfl⟩) (by assumption) ?_
    go_simp
    refine wpAnyH_take (i := 10) (v := ?_) rfl (by kernel_rfl) (by kernel_rfl) (by kernel_rfl) (fun _ _ _ h => h) (Or.inl ⟨by kernel_rfl, ?_⟩) (by assumption) ?_
    rotate_left
    · (intro w' hSw; (try dsimp only at hSw); go_simp); try with_reducible rfl
    go_simp
    refine wpAnyH_take (i := 11) (v := ?_) rfl (by kernel_rfl) (by kernel_rfl) (by kernel_rfl) (fun _ _ _ h => h) (Or.inl ⟨by kernel_rfl, ?_⟩) (by assumption) ?_
    rotate_left
    · (intro w' hSw; (try dsimp only at hSw); go_simp); try with_reducible rfl
    go_simp
    refine wpAnyH_take (i := 12) (v := undef) rfl (by kernel_rfl) (by kernel_rfl) (by kernel_rfl) (fun _ _ _ h => h) (Or.inr ⟨by kernel_rfl, rfl⟩) (by assumption) ?_
    go_simp
    refine wpAnyH_take (i := 13) (v := undef) rfl (by kernel_rfl) (by kernel_rfl) (by kernel_rfl) (fun _ _ _ h => h) (Or.inr ⟨by kernel_rfl, rfl⟩) (by assumption) ?_
    go_simp
    refine wpAnyH_take (i := 14) (v := undef) rfl (by kernel_rfl) (by kernel_rfl) (by kernel_rfl) (fun _ _ _ h => h) (Or.inr ⟨by kernel_rfl, rfl⟩) (by assumption) ?_
    go_simp
    refine wpAnyH_take (i := 15) (v := undef) rfl (by kernel_rfl) (by kernel_rfl) (by kernel_rfl) (fun _ _ _ h => h) (Or.inr ⟨by kernel_rfl, rfl⟩) (by assumption) ?_
    go_simp
    refine wpAnyH_take (i := 16) (v := undef) rfl (by kernel_rfl) (by kernel_rfl) (by kernel_rfl) (fun _ _ _ h => h) (Or.inr ⟨by kernel_rfl, rfl⟩) (by assumption) ?_
    go_simp
    refine wpAnyH_take (i := 17) (v := undef) rfl (by kernel_rfl) (by kernel_rfl) (by kernel_rfl) (fun _ _ _ h => h) (Or.inr ⟨by kernel_rfl, rfl⟩) (by assumption) ?_
    go_simp
    refine wpAnyH_take (i := 18) (v := undef) rfl (by kernel_rfl) (by kernel_rfl) (by kernel_rfl) (fun _ _ _ h => h) (Or.inr ⟨by kernel_rfl, rfl⟩) (by assumption) ?_
    go_simp
    refine wpAnyH_take (i := 19) (v := undef) rfl (by kernel_rfl) (by kernel_rfl) (by kernel_rfl) (fun _ _ _ h => h) (Or.inr ⟨by kernel_rfl, rfl⟩) (by assumption) ?_
    go_simp
    refine wpAnyH_take (i := 20) (v := ?_) rfl (by kernel_rfl) (by kernel_rfl) (by kernel_rfl) (fun _ _ _ h => h) (Or.inl ⟨by kernel_rfl, ?_⟩) (by assumption) ?_
    rotate_left
    · (intro w' hSw; (try dsimp only at hSw); go_simp); try with_reducible rfl
    go_simp
    refine wpAnyH_take (i := 21) (v := ?_) rfl (by kernel_rfl) (by kernel_rfl) (by kernel_rfl) (fun _ _ _ h => h) (Or.inl ⟨by kernel_rfl, ?_⟩) (by assumption) ?_
    rotate_left
    · (intro w' hSw; (try dsimp only at hSw); go_simp); try with_reducible rfl
    go_simp
    refine wpAnyH_done (by kernel_rfl) ?_ _
    all_goals go_wp2
    all_goals go_ret
    all_goals exact ⟨_, rfl, hbx.trans (hS1.2.2.2.2.mono hbx.size), fun h => by first | cases h | (simp at h; done)⟩
end Go.Proofs.YtlglijnaeaonpaaGreatDoor.Css
