/- An at-rule: its name and its words. (Printed by genr5.py.) -/
import Derived.Test.YtlglijnaeaonpaaGreatDoorNae
import Derived.Test.YtlglijnaeaonpaaGreatDoorNv
set_option linter.all false
/- An at-rule: its name and its words. (Printed by genr5.py.) -/
namespace Go.Proofs.YtlglijnaeaonpaaGreatDoor.Css
open Go.RowKit

/-- What an at-rule leaves. -/
def APost (X : Lx) (pp B : Nat) (w : World) (r : PR) (fns' : List Nat) (nm : List UInt8) (vals : List Tok) (gt : Int) (e qE : Nat) (x : Ending) (w' : World) : Prop :=
  x = .returned (.int .u32 gt) ∧ ∃ (bufv sv dv : Value) (out : List Tok), Slb w' dv nm ∧ out.filter nb = vals ∧
    PAt X pp B w' qE { r with buf := bufv, state := sv, level := 0, pw := isWS (byte X.t e), pc := false, data := dv, pe := false } out fns' ∧ Adv B w w'
/-- How an at-rule ends: with a semicolon, or with the brace of a list of rules. -/
def AEnd (tE gt hv : Int) (fns fns' : List Nat) : Prop :=
  (tE = 24 ∧ gt = 2 ∧ fns' = fns) ∨ (tE = 30 ∧ gt = 3 ∧ fns' = fns ++ [75] ∧ (hv = 9733 ∨ hv = 6408 ∨ hv = 8))
/-- The number of a name. -/
def HashOK (nm : List UInt8) (hv : Int) : Prop := ∀ (w : World) (b off cap : Nat), Lies w b off nm → b < w.heap.size → HTab w → Calls Tryz.prog 73 #[.slice (some ⟨b, off, none⟩) nm.length cap] w (HPost w hv)
/-- The loop's state at its head. -/
def ARel (X : Lx) (pp B : Nat) (w : World) (r : PR) (fns : List Nat) (dv : Value) (nm : List UInt8) (vals : List Tok) (e : Nat) (k : Nat) (wr : World) : Prop :=
  ∃ p' l' lv bl v pw' pc', Bal lv l' ∧ Toks X p' l' e ∧ k = l'.length ∧ bl.filter nb ++ X.toks l' = vals ∧
    PAt X pp B wr p' { r with buf := v, level := (lv : Nat), pw := pw', pc := pc', data := dv } bl fns ∧ Adv B w wr ∧ Slb wr dv nm ∧ bl.length ≤ 2 * p' ∧ lv ≤ p'
theorem Slb.adv {B : Nat} {w w' : World} {v : Value} {l : List UInt8} (h : Slb w v l) (hr : 0 < l.length → ∀ b off, (∃ n c, v = .slice (some ⟨b, off, none⟩) n c) → ∃ cs f, w.heap[b]? = some (Obj.cells cs 5 f)) (ha : Adv B w w') : Slb w' v l := by
  obtain ⟨a, cap, rfl, h2⟩ := h
  refine ⟨a, cap, rfl, fun h0 => ?_⟩
  obtain ⟨b, off, rfl, hL⟩ := h2 h0
  obtain ⟨cs, f, hc⟩ := hr h0 b off ⟨_, _, rfl⟩
  exact ⟨b, off, rfl, fun i hi => by rw [cell_at (ha.u8 _ _ _ hc), ← cell_at hc]; exact hL i hi⟩

section
variable (X : Lx) (pp B : Nat) (w : World) (p : Nat) (r : PR) (toks : List Tok) (fns : List Nat) (h : PAt X pp B w p r toks fns)
include h
set_option maxRecDepth 100000 in
set_option maxHeartbeats 2000000 in
theorem arule_any (p1 : Nat) (nm : List UInt8) (hv : Int) (hsg : seg X.t p1 p = 64 :: nm) (hp1 : p1 < p) (hnd : r.data = (X.tok 3 p1 p).val) (hpe : r.pe = false) (hlv : r.level = 0)
    (hnc : NoCap (64 :: nm)) (hn0 : 0 < nm.length) (hn1 : (byte nm 0 == 45) = false) (hH : HashOK nm hv) (hT : HTab w) (hB1 : 1 < B)
    (l : List (Int × Nat × Nat)) (e : Nat) (hl : Toks X p l e) (hbal : Bal 0 l) (tE gt : Int) (fns' : List Nat) (vE : Value) (qE : Nat) (hE : Pop X e tE vE qE) (hend : AEnd tE gt hv fns fns') (hbig : X.t.length ≤ 200000) (hfl : fns.length ≤ 1000) :
    Calls Tryz.prog 54 #[.pointer (some ⟨pp, 0, none⟩)] w (APost X pp B w r fns' (64 :: nm) (X.toks l) gt e qE) := by
  obtain ⟨vals, hvals⟩ : ∃ vals, vals = X.toks l := ⟨_, rfl⟩
  rw [← hvals]
  have hb := initBuf_any X pp B w p r toks fns h
  have HE := Lib.hid hE
  have HEND := Lib.hid hend
  have HIN := Lib.hid (show _ ∧ _ from ⟨hbal, hl⟩)
  have HV := Lib.hid hvals
  have HLV0 := Lib.hid hlv
  have HPE := Lib.hid hpe
  have HBIG := Lib.hid hbig
  have HFL := Lib.hid hfl
  have HNC := Lib.hid hnc
  have HH := Lib.hid hH
  have HT := Lib.hid hT
  have HB1 := Lib.hid hB1
  have hpl := h.lx.pl
  have hok : (X.tok 3 p1 p).Ok w := h.toPB.tok 3 hpl
  obtain ⟨tk, htk⟩ : ∃ tk, tk = X.tok 3 p1 p := ⟨_, rfl⟩
  rw [← htk] at hnd hok
  have hbs : tk.bs = 64 :: nm := by rw [htk]; exact hsg
  obtain ⟨m, hm⟩ : ∃ m, m = nm.length := ⟨_, rfl⟩
  have hln : tk.bs.length = m + 1 := by rw [hbs, hm]; rfl
  have HM := Lib.hid (show m = nm.length ∧ tk.bs = 64 :: nm ∧ tk.Ok w ∧ m ≤ 200000 from ⟨hm, hbs, hok, by
    have h1 := congrArg List.length hsg
    rw [seg_length hpl] at h1
    simp only [List.length_cons] at h1
    omega⟩)
  have hm0 : 0 < m := by omega
  clear hbal hl hvals hE hend hlv hbig hfl hnc hH hT hB1 hpe hok hbs hsg hp1 hm hn0 hpl htk
  go_enter Tryz.func54, Tryz.ntmps54
  go_upto_region 2 with (go_at_call 57; (with_reducible refine hb.mono ?_); rintro e w1 ⟨rfl, v1, hP, hA⟩)
  clear hb
  have k6 := hP.f6
  simp only at k6
  rw [hnd] at k6
  simp only [Tok.val] at k6
  rw [hln] at k6
  have hkff := hP.ff
  have hcp := copy_any w1 (.slice (some ⟨tk.b, tk.off, none⟩) (m + 1) tk.cap) (64 :: nm) ⟨_, _, by rw [HM.out.1]; rfl, fun _ => ⟨_, _, rfl, by rw [← HM.out.2.1]; exact (HM.out.2.2.1.adv hA).lies⟩⟩ (by have := HM.out; simp only [List.length_cons]; omega)
  unfold CopyRow at hcp
  simp only [show (64 :: nm : List UInt8).length = m + 1 from by rw [HM.out.1]; rfl] at hcp
  go_upto_region 3 with (first | (go_at_call 42; ((with_reducible refine hcp.mono ?_); rintro x2 w2 ⟨rfl, hrow, hbel⟩; have hP2 := hP.below hbel; have hA2 := hA.trans (Adv.ofBelow hbel hP.hB); have p6 := hP2.f6; have pff := hP2.ff; have hLi : Lies w2 w1.heap.size 0 (64 :: nm) := (fun i hi => by rw [cell_at hrow, Nat.zero_add, List.getElem?_toArray]; exact cellsOf_get _ i hi); have hlo := lower_any w2 w1.heap.size 0 (m + 1) (64 :: nm) hLi HNC.out (by have := HM.out; simp only [List.length_cons]; omega); simp only [show (64 :: nm : List UInt8).length = m + 1 from (by rw [HM.out.1]; rfl)] at hlo)) | (go_at_call 71; ((with_reducible refine hlo.mono ?_); rintro x3 w3 ⟨rfl, rfl⟩)))
  clear hcp hlo
  obtain ⟨hP3, hA3⟩ := hP2.set 6 (.slice (some ⟨w1.heap.size, 0, none⟩) (m + 1) (m + 1)) { r with buf := v1, data := .slice (some ⟨w1.heap.size, 0, none⟩) (m + 1) (m + 1) } rfl hP2.buf hP2.stk
  have hA4 := hA2.trans hA3
  have hrow3 := hA3.u8 _ _ _ hrow
  obtain ⟨g, hg⟩ : ∃ g, g = w1.heap.size := ⟨_, rfl⟩
  rw [← hg] at hP3 hA3 hA4 hrow3 ⊢
  obtain ⟨wa, hwa⟩ : ∃ wa, wa = w2.setCell ⟨pp, 6, none⟩ (.slice (some ⟨g, 0, none⟩) (m + 1) (m + 1)) := ⟨_, rfl⟩
  rw [← hwa] at hP3 hA3 hA4 hrow3 ⊢
  have hL3 : Lies wa g 0 (64 :: nm) := fun i hi => by rw [cell_at hrow3, Nat.zero_add, List.getElem?_toArray]; exact cellsOf_get _ i hi
  have hSl : Slb wa (.slice (some ⟨g, 0, none⟩) (m + 1) (m + 1)) (64 :: nm) := ⟨_, m + 1, by rw [HM.out.1]; rfl, fun _ => ⟨g, 0, rfl, hL3⟩⟩
  have hLn : Lies wa g 1 nm := fun i hi => by
    have := hL3 (i + 1) (by simp only [List.length_cons]; omega)
    rw [Nat.zero_add] at this
    rw [Nat.add_comm 1 i, this]
    simp [byte]
  obtain ⟨c, hc⟩ : ∃ c, c = byte nm 0 := ⟨_, rfl⟩
  rw [← hc] at hn1
  have c1 : wa.cell? ⟨g, 1, none⟩ = some (.int .u8 c) := by rw [hc]; exact hLn 0 (by have := HM.out; omega)
  have q6 := hP3.f6
  dsimp only at q6
  have hha := HH.out wa g 1 m hLn (by exact (Array.getElem?_eq_some_iff.1 hrow3).1) (HT.out.below HB1.out hA4.below)
  rw [← HM.out.1] at hha
  have HZ := Lib.hid (show _ ∧ _ ∧ _ ∧ _ from ⟨hP3, hA4, hSl, hrow3⟩)
  clear hP3 hA3 hA4 hrow3 hL3 hSl hLn hc hwa hg hrow hbel hP2 hA2 p6 pff hLi k6 hkff hP hA
  go_upto_region 9 with (go_at_call 73; (with_reducible refine hha.mono ?_); rintro x4 w4 ⟨rfl, hb4⟩)
  obtain ⟨hP3, hA4, hSl, hrow3⟩ := HZ.out
  have hP4 := hP3.below hb4
  have hA5 := hA4.trans (Adv.ofBelow hb4 hP3.hB)
  have hrow4 : w4.heap[g]? = some (.cells (cellsOf (64 :: nm)).toArray 5 (0, 0)) := by rw [hb4.block _ (Array.getElem?_eq_some_iff.1 hrow3).1]; exact hrow3
  have hSl4 : Slb w4 (.slice (some ⟨g, 0, none⟩) (m + 1) (m + 1)) (64 :: nm) := ⟨_, m + 1, by rw [HM.out.1]; rfl, fun _ => ⟨g, 0, rfl, fun i hi => by rw [cell_at hrow4, Nat.zero_add, List.getElem?_toArray]; exact cellsOf_get _ i hi⟩⟩
  have HS := Lib.hid (show (∀ w', Adv B w4 w' → Slb w' (.slice (some ⟨g, 0, none⟩) (m + 1) (m + 1)) (64 :: nm)) ∧ True from ⟨fun w' ha => ⟨_, m + 1, by rw [HM.out.1]; rfl, fun _ => ⟨g, 0, rfl, fun i hi => by
    rw [cell_at (ha.u8 _ _ _ hrow4), Nat.zero_add, List.getElem?_toArray]; exact cellsOf_get _ i hi⟩⟩, trivial⟩)
  have HSA := Lib.hid hrow4
  clear hha hP3 hA4 hSl hrow3 hrow4 hb4 c1 q6 hn1 HZ
  go_wp2
  obtain ⟨dv, hdv⟩ : ∃ dv, dv = Value.slice (some ⟨g, 0, none⟩) (m + 1) (m + 1) := ⟨_, rfl⟩
  have HDV := Lib.hid hdv
  rw [← hdv] at hP4 hSl4
  refine wp_loop_ghost_k (fun k a wr => ∃ (fi skip : Bool) (f : Nat → Value), (ARel X pp B w r fns dv (64 :: nm) vals e k wr ∧ Adv B w4 wr) ∧ a = (⟨#[.pointer (some ⟨pp, 0, none⟩), f 1, .int .u32 0, f 3, f 4, .int .u32 hv, .bool fi, .bool skip, f 8, f 9, f 10, f 11, f 12, f 13, f 14, f 15, f 16, f 17, f 18, f 19, f 20, f 21, f 22, f 23, f 24, f 25, f 26, f 27, f 28, f 29, f 30, f 31, f 32, f 33, f 34, f 35, f 36, f 37, f 38, f 39, f 40, f 41, f 42, f 43, f 44, f 45, f 46, f 47, f 48, f 49, f 50, f 51, f 52, f 53, f 54, f 55, f 56, f 57, f 58, f 59, f 60, f 61, f 62, f 63, f 64, f 65, f 66, f 67, f 68, f 69, f 70, f 71, f 72, f 73, f 74, f 75, f 76, f 77, f 78, f 79, f 80, f 81, f 82, f 83, f 84, f 85, f 86, f 87, f 88, f 89, f 90, f 91, f 92, f 93, f 94, f 95, f 96, f 97, f 98, f 99, f 100, f 101, f 102, f 103, f 104, f 105, f 106, f 107, f 108, f 109, f 110, f 111, f 112, f 113, f 114, f 115, f 116, f 117, f 118, f 119, f 120, f 121, f 122, f 123, f 124, f 125, f 126, f 127, f 128, f 129, f 130, f 131, f 132, f 133, f 134, f 135, f 136, f 137, f 138, f 139, f 140, f 141, f 142, f 143, f 144, f 145, f 146, f 147, f 148, f 149, f 150, f 151, f 152, f 153, f 154, f 155, f 156, f 157, f 158, f 159, f 160, f 161, f 162, f 163, f 164, f 165, f 166, f 167, f 168, f 169, f 170, f 171, f 172, f 173, f 174, f 175, f 176, f 177, f 178, f 179, f 180, f 181, f 182, f 183, f 184, f 185, f 186, f 187, f 188, f 189, f 190, f 191, f 192, f 193, f 194, f 195, f 196, f 197, f 198, f 199, f 200, f 201, f 202, f 203, f 204, f 205, f 206, f 207, f 208, f 209, f 210, f 211, f 212, f 213, f 214, f 215, f 216, f 217, f 218, f 219, f 220, f 221, f 222, f 223, f 224, f 225, f 226, f 227, f 228, f 229, f 230, f 231, f 232, f 233, f 234, f 235, f 236, f 237, f 238, f 239, f 240, f 241, f 242, f 243, f 244, f 245, f 246, f 247, f 248, f 249, f 250, f 251, f 252, f 253, f 254, f 255, f 256, f 257, f 258, f 259], []⟩ : Act)) l.length ?_ ?_
  · refine ⟨true, false, frm_exists ?_ (by kernel_rfl)⟩
    obtain ⟨hbal, hl⟩ := HIN.out
    refine ⟨⟨p, l, 0, [], v1, r.pw, r.pc, hbal, hl, rfl, by simpa using HV.out.symm, ?_, hA5, hSl4, Nat.zero_le _, Nat.zero_le _⟩, Adv.refl _ _⟩
    have e9 : ({ r with buf := v1, data := dv } : PR) = { r with buf := v1, level := ((0 : Nat) : Int), pw := r.pw, pc := r.pc, data := dv } := by rw [show r.level = ((0 : Nat) : Int) from HLV0.out]
    rw [← e9]; exact hP4
  · intro gk _ wr hinv
    obtain ⟨fi, skip, f, ⟨hrel, hA6⟩, ha⟩ := hinv
    subst ha
    dsimp only
    intro _ _ _ _
    clear hP4 hA5 hSl4 hdv
    obtain ⟨p', l', lv, bl, v, pw', pc', e2, e5, e6, e8, hP, hA, hS, e9, e10⟩ := hrel
    cases e5 with
    | nil =>
      cases e2
      have hpop := pop_any X pp B wr _ _ _ _ hP false tE vE qE HE.out
      obtain ⟨va, vn, vc, rfl⟩ : ∃ a n c, vE = .slice a n c := by cases HE.out <;> exact ⟨_, _, _, rfl⟩
      have HX := Lib.hid (show _ ∧ _ from ⟨e8, hA⟩)
      clear e6 e8 e9 e10 hS
      go_upto_region 12 with (go_at_call 44; (with_reducible refine hpop.mono ?_); rintro x w2 ⟨rfl, hP2, hA2⟩)
      clear hpop
      have k5 : w2.cell? ⟨pp, 5, none⟩ = some (.int .i64 0) := hP2.f5
      have k1 := hP2.f1
      have kff := hP2.ff
      have k10 := hP2.f10
      dsimp only at k1 k10
      rcases HEND.out with ⟨rfl, rfl, rfl⟩ | ⟨rfl, rfl, rfl, hhv⟩
      · obtain ⟨hP3, hA3⟩ := hP2.set 10 (.bool false) { r with buf := v, level := 0, pw := isWS (byte X.t e), pc := false, data := dv, pe := false } rfl hP2.buf hP2.stk
        go_wp2
        go_ret
        obtain ⟨e8, hA⟩ := HX.out
        have hSS := HS.out.1 _ ((hA6.trans hA2).trans hA3)
        rw [← HDV.out] at hSS
        exact ⟨rfl, v, r.state, dv, bl, hSS, by simpa [Lx.toks] using e8, hP3, (hA.trans hA2).trans hA3⟩
      · obtain ⟨i0, hi, hz0, hz1, hz2⟩ := info_parts info88
        obtain ⟨sa, sn, sc, hst⟩ : ∃ a n c, r.state = .slice a n c := Own.any hP2.stk
        rw [hst] at k1
        have e9 : ({ r with buf := v, level := 0, pw := isWS (byte X.t e), pc := false, data := dv } : PR) = { r with buf := v, level := 0, pw := isWS (byte X.t e), pc := false, data := dv, pe := false } := by rw [← HPE.out]
        have hP3 : PAt X pp B w2 qE { r with buf := v, level := 0, pw := isWS (byte X.t e), pc := false, data := dv, pe := false } bl fns := by rw [← e9]; exact hP2
        have HP3 := Lib.hid hP3
        have HPO := Lib.hid (show Own w2 B 88 1 r.state fns.length (fns.map fnVal) from hP2.stk)
        have hBz := hP2.hB
        clear hP2 hP3 e9 k10
        rcases hhv with rfl | rfl | rfl
        · go_wp2_with (at_builtin; refine wpList_append_Own _ rfl (.tmp 97) (.tmp 98) 78 rfl B 88 i0 .nilFunc 1 8 Tryz.underlying78 hi hz0 hz1 hz2 rfl (by decide) _ fns.length (fns.map fnVal) rfl (by rw [← hst]; exact HPO.out.keep fun k hk => Below.heap_alloc _ _ _ (HPO.out.lt k hk).2.1) ⟨w2.heap.size, 0, none⟩ 1 1 [fnVal 75] rfl rfl ?q1a ?q2a (by have := HFL.out; unfold maxLen; omega) (by have := HFL.out; omega) ?q3a ?q4a)
          case q1a =>
            intro j u hj
            have hj1 : j < 1 := (List.getElem?_eq_some_iff.1 hj).1
            obtain rfl : j = 0 := by omega
            cases hj
            first | exact new_cellR _ _ _ | rfl
          case q2a => first | rfl | (intro u hu; rw [List.mem_singleton.1 hu]; rfl)
          case q3a => first | omega | exact (HP3.out.alloc _).hB
          case q4a =>
            intro v' w5 hown5 hgr
            rw [← hst] at hgr
            obtain ⟨hP5, hA7, hpp⟩ := (HP3.out.alloc _).pushState hgr hown5
            obtain ⟨va', vn', vc', rfl⟩ := Own.any hown5
            have c5 := cell_at (i := 1) hpp
            have f5 := frozen_at hpp 1
            have HY := Lib.hid (show _ ∧ _ from ⟨hP5, ((Adv.refl B w2).alloc HP3.out.hB _).trans hA7⟩)
            clear hP5 hA7 hpp hgr hown5
            go_wp2
            go_ret
            obtain ⟨hP5, hA7⟩ := HY.out
            obtain ⟨e8, hA⟩ := HX.out
            have hSS := HS.out.1 _ ((hA6.trans hA2).trans hA7)
            rw [← HDV.out] at hSS
            exact ⟨rfl, v, _, dv, bl, hSS, by simpa [Lx.toks] using e8, hP5, (hA.trans hA2).trans hA7⟩
        · go_wp2_with (at_builtin; refine wpList_append_Own _ rfl (.tmp 97) (.tmp 98) 78 rfl B 88 i0 .nilFunc 1 8 Tryz.underlying78 hi hz0 hz1 hz2 rfl (by decide) _ fns.length (fns.map fnVal) rfl (by rw [← hst]; exact HPO.out.keep fun k hk => Below.heap_alloc _ _ _ (HPO.out.lt k hk).2.1) ⟨w2.heap.size, 0, none⟩ 1 1 [fnVal 75] rfl rfl ?q1b ?q2b (by have := HFL.out; unfold maxLen; omega) (by have := HFL.out; omega) ?q3b ?q4b)
          case q1b =>
            intro j u hj
            have hj1 : j < 1 := (List.getElem?_eq_some_iff.1 hj).1
            obtain rfl : j = 0 := by omega
            cases hj
            first | exact new_cellR _ _ _ | rfl
          case q2b => first | rfl | (intro u hu; rw [List.mem_singleton.1 hu]; rfl)
          case q3b => first | omega | exact (HP3.out.alloc _).hB
          case q4b =>
            intro v' w5 hown5 hgr
            rw [← hst] at hgr
            obtain ⟨hP5, hA7, hpp⟩ := (HP3.out.alloc _).pushState hgr hown5
            obtain ⟨va', vn', vc', rfl⟩ := Own.any hown5
            have c5 := cell_at (i := 1) hpp
            have f5 := frozen_at hpp 1
            have HY := Lib.hid (show _ ∧ _ from ⟨hP5, ((Adv.refl B w2).alloc HP3.out.hB _).trans hA7⟩)
            clear hP5 hA7 hpp hgr hown5
            go_wp2
            go_ret
            obtain ⟨hP5, hA7⟩ := HY.out
            obtain ⟨e8, hA⟩ := HX.out
            have hSS := HS.out.1 _ ((hA6.trans hA2).trans hA7)
            rw [← HDV.out] at hSS
            exact ⟨rfl, v, _, dv, bl, hSS, by simpa [Lx.toks] using e8, hP5, (hA.trans hA2).trans hA7⟩
        · go_wp2_with (at_builtin; refine wpList_append_Own _ rfl (.tmp 97) (.tmp 98) 78 rfl B 88 i0 .nilFunc 1 8 Tryz.underlying78 hi hz0 hz1 hz2 rfl (by decide) _ fns.length (fns.map fnVal) rfl (by rw [← hst]; exact HPO.out.keep fun k hk => Below.heap_alloc _ _ _ (HPO.out.lt k hk).2.1) ⟨w2.heap.size, 0, none⟩ 1 1 [fnVal 75] rfl rfl ?q1c ?q2c (by have := HFL.out; unfold maxLen; omega) (by have := HFL.out; omega) ?q3c ?q4c)
          case q1c =>
            intro j u hj
            have hj1 : j < 1 := (List.getElem?_eq_some_iff.1 hj).1
            obtain rfl : j = 0 := by omega
            cases hj
            first | exact new_cellR _ _ _ | rfl
          case q2c => first | rfl | (intro u hu; rw [List.mem_singleton.1 hu]; rfl)
          case q3c => first | omega | exact (HP3.out.alloc _).hB
          case q4c =>
            intro v' w5 hown5 hgr
            rw [← hst] at hgr
            obtain ⟨hP5, hA7, hpp⟩ := (HP3.out.alloc _).pushState hgr hown5
            obtain ⟨va', vn', vc', rfl⟩ := Own.any hown5
            have c5 := cell_at (i := 1) hpp
            have f5 := frozen_at hpp 1
            have HY := Lib.hid (show _ ∧ _ from ⟨hP5, ((Adv.refl B w2).alloc HP3.out.hB _).trans hA7⟩)
            clear hP5 hA7 hpp hgr hown5
            go_wp2
            go_ret
            obtain ⟨hP5, hA7⟩ := HY.out
            obtain ⟨e8, hA⟩ := HX.out
            have hSS := HS.out.1 _ ((hA6.trans hA2).trans hA7)
            rw [← HDV.out] at hSS
            exact ⟨rfl, v, _, dv, bl, hSS, by simpa [Lx.toks] using e8, hP5, (hA.trans hA2).trans hA7⟩
    | cons _ q1 tt q l2 _ hs hT0 h20 h32 hl2 =>
      cases e2 with
      | cons _ lvx _ _ e3 e4 =>
      obtain ⟨n24, n31, n30, n0⟩ := e3.facts
      dsimp only at n24 n31 n30 n0
      obtain ⟨L, hL⟩ : ∃ L : Int, L = lv := ⟨_, rfl⟩
      obtain ⟨L2, hL2⟩ : ∃ L2 : Int, L2 = lvx := ⟨_, rfl⟩
      rw [← hL] at hP
      have HLV := Lib.hid (e3.split hL hL2)
      have hpop := pop_any X pp B wr p' _ _ _ hP false tt _ q (.tk q1 tt q hs hT0 h20 h32)
      have hgt := hT0.gt
      have hq1 : p' ≤ q1 := by rw [← hs]; exact spanEnd_ge _ _ _
      obtain ⟨tk2, htk⟩ : ∃ tk2, tk2 = X.tok tt q1 q := ⟨_, rfl⟩
      rw [← htk] at hpop
      obtain ⟨n, hn⟩ : ∃ n, n = tk2.bs.length := ⟨_, rfl⟩
      simp only [Tok.val] at hpop
      rw [← hn] at hpop
      have HTK := Lib.hid htk
      have HN := Lib.hid hn
      have hLb : 0 ≤ L ∧ L < 1000000 := by have := HBIG.out; have := hP.lx.pl; omega
      have HBK := Lib.hid (show gk = l2.length + 1 ∧ bl.filter nb ++ X.tok tt q1 q :: X.toks l2 = vals ∧ Bal lvx l2 ∧ Toks X q l2 e ∧ tt ≠ 20 ∧ bl.length ≤ 2 * q1 ∧ lv ≤ q1 ∧ q1 < q ∧ L = lv ∧ L2 = lvx from
        ⟨by rw [e6]; rfl, e8, e4, hl2, h20, by omega, by omega, hgt, hL, hL2⟩)
      clear e3 e4 e6 e8 e9 e10 hl2 h20 h32 hs hT0 hL hL2 htk hn hS hgt hq1
      go_upto_if 59 with (go_at_call 44; (with_reducible refine hpop.mono ?_); rintro x w2 ⟨rfl, hP2, hA2⟩)
      clear hpop
      have hqx : q ≤ X.t.length := hP2.lx.pl
      have hA7 := hA.trans hA2
      have hA8 := hA6.trans hA2
      have k5 := hP2.f5
      dsimp only at k5
      clear hP hA hA6 hA2
      refine wp_cut (fun a' wd => ∃ f : Nat → Value, (PAt X pp B wd q { r with buf := v, level := L2, pw := isWS (byte X.t p'), pc := false, data := dv } bl fns ∧ Adv B w wd ∧ Adv B w4 wd) ∧
        a' = (⟨#[.pointer (some ⟨pp, 0, none⟩), f 1, .int .u32 0, f 3, f 4, .int .u32 hv, .bool fi, .bool skip, .int .u32 tt, .slice (some ⟨tk2.b, tk2.off, none⟩) n tk2.cap, f 10, f 11, f 12, f 13, f 14, f 15, f 16, f 17, f 18, f 19, f 20, f 21, f 22, f 23, f 24, f 25, f 26, f 27, f 28, f 29, f 30, f 31, f 32, f 33, f 34, f 35, f 36, f 37, f 38, f 39, f 40, f 41, f 42, f 43, f 44, f 45, f 46, f 47, f 48, f 49, f 50, f 51, f 52, f 53, f 54, f 55, f 56, f 57, f 58, f 59, f 60, f 61, f 62, f 63, f 64, f 65, f 66, f 67, f 68, f 69, f 70, f 71, f 72, f 73, f 74, f 75, f 76, f 77, f 78, f 79, f 80, f 81, f 82, f 83, f 84, f 85, f 86, f 87, f 88, f 89, f 90, f 91, f 92, f 93, f 94, f 95, f 96, f 97, f 98, f 99, f 100, f 101, f 102, f 103, f 104, f 105, f 106, f 107, f 108, f 109, f 110, f 111, f 112, f 113, f 114, f 115, f 116, f 117, f 118, f 119, f 120, f 121, f 122, f 123, f 124, f 125, f 126, f 127, f 128, f 129, f 130, f 131, f 132, f 133, f 134, f 135, f 136, f 137, f 138, f 139, f 140, f 141, f 142, f 143, f 144, f 145, f 146, f 147, f 148, f 149, f 150, f 151, f 152, f 153, f 154, f 155, f 156, f 157, f 158, f 159, f 160, f 161, f 162, f 163, f 164, f 165, f 166, f 167, f 168, f 169, f 170, f 171, f 172, f 173, f 174, f 175, f 176, f 177, f 178, f 179, f 180, f 181, f 182, f 183, f 184, f 185, f 186, f 187, f 188, f 189, f 190, f 191, f 192, f 193, f 194, f 195, f 196, f 197, f 198, f 199, f 200, f 201, f 202, f 203, f 204, f 205, f 206, f 207, f 208, f 209, f 210, f 211, f 212, f 213, f 214, f 215, f 216, f 217, f 218, f 219, f 220, f 221, f 222, f 223, f 224, f 225, f 226, f 227, f 228, f 229, f 230, f 231, f 232, f 233, f 234, f 235, f 236, f 237, f 238, f 239, f 240, f 241, f 242, f 243, f 244, f 245, f 246, f 247, f 248, f 249, f 250, f 251, f 252, f 253, f 254, f 255, f 256, f 257, f 258, f 259], []⟩ : Act)) ?_ ?_
      rotate_left
      · skip
        intro _ _ _ _
        have kf := hP2.ff
        rcases HLV.out with ⟨a, e⟩ | ⟨a, e, e0⟩ | ⟨a1, a2, a3, a4, a5, e⟩
        · have s1 : IntKind.i64.wrap (L + 1) = L2 := by rw [IntWalk.i64_in _ (by omega)]; omega
          obtain ⟨hP3, hA3⟩ := hP2.set 5 (.int .i64 L2) { r with buf := v, level := L2, pw := isWS (byte X.t p'), pc := false, data := dv } rfl hP2.buf hP2.stk
          have hA9 := hA7.trans hA3
          have hA10 := hA8.trans hA3
          clear e
          rcases a with rfl | rfl | rfl <;> (go_wp2; refine Met.intro ?_; go_step; exact frm_exists ⟨hP3, hA9, hA10⟩ (by kernel_rfl))
        · have s1 : IntKind.i64.wrap (L - 1) = L2 := by rw [IntWalk.i64_in _ (by omega)]; omega
          have s2 : (L == 0) = false := beq_eq_false_iff_ne.2 (by omega)
          obtain ⟨hP3, hA3⟩ := hP2.set 5 (.int .i64 L2) { r with buf := v, level := L2, pw := isWS (byte X.t p'), pc := false, data := dv } rfl hP2.buf hP2.stk
          have hA9 := hA7.trans hA3
          have hA10 := hA8.trans hA3
          clear e e0
          rcases a with rfl | rfl <;> (go_wp2; refine Met.intro ?_; go_step; exact frm_exists ⟨hP3, hA9, hA10⟩ (by kernel_rfl))
        · subst e
          go_wp2
          refine Met.intro ?_
          go_step
          exact frm_exists ⟨hP2, hA7, hA8⟩ (by kernel_rfl)
      intro _ wd hinv
      obtain ⟨f3, ⟨hP3, hA9, hA10⟩, ha⟩ := hinv
      subst ha
      dsimp only
      clear hP2 hA7 hA8 k5
      go_upto_if 214 with fail
      refine wp_cut (fun a' we => ∃ (pw2 : Bool) (f : Nat → Value), (PAt X pp B we q { r with buf := v, level := L2, pw := pw2, pc := false, data := dv } bl fns ∧ Adv B w we ∧ Adv B w4 we) ∧
        a' = (⟨#[.pointer (some ⟨pp, 0, none⟩), f 1, .int .u32 0, f 3, f 4, .int .u32 hv, .bool false, .bool skip, .int .u32 tt, .slice (some ⟨tk2.b, tk2.off, none⟩) n tk2.cap, f 10, f 11, f 12, f 13, f 14, f 15, f 16, f 17, f 18, f 19, f 20, f 21, f 22, f 23, f 24, f 25, f 26, f 27, f 28, f 29, f 30, f 31, f 32, f 33, f 34, f 35, f 36, f 37, f 38, f 39, f 40, f 41, f 42, f 43, f 44, f 45, f 46, f 47, f 48, f 49, f 50, f 51, f 52, f 53, f 54, f 55, f 56, f 57, f 58, f 59, f 60, f 61, f 62, f 63, f 64, f 65, f 66, f 67, f 68, f 69, f 70, f 71, f 72, f 73, f 74, f 75, f 76, f 77, f 78, f 79, f 80, f 81, f 82, f 83, f 84, f 85, f 86, f 87, f 88, f 89, f 90, f 91, f 92, f 93, f 94, f 95, f 96, f 97, f 98, f 99, f 100, f 101, f 102, f 103, f 104, f 105, f 106, f 107, f 108, f 109, f 110, f 111, f 112, f 113, f 114, f 115, f 116, f 117, f 118, f 119, f 120, f 121, f 122, f 123, f 124, f 125, f 126, f 127, f 128, f 129, f 130, f 131, f 132, f 133, f 134, f 135, f 136, f 137, f 138, f 139, f 140, f 141, f 142, f 143, f 144, f 145, f 146, f 147, f 148, f 149, f 150, f 151, f 152, f 153, f 154, f 155, f 156, f 157, f 158, f 159, f 160, f 161, f 162, f 163, f 164, f 165, f 166, f 167, f 168, f 169, f 170, f 171, f 172, f 173, f 174, f 175, f 176, f 177, f 178, f 179, f 180, f 181, f 182, f 183, f 184, f 185, f 186, f 187, f 188, f 189, f 190, f 191, f 192, f 193, f 194, f 195, f 196, f 197, f 198, f 199, f 200, f 201, f 202, f 203, f 204, f 205, f 206, f 207, f 208, f 209, f 210, f 211, f 212, f 213, f 214, f 215, f 216, f 217, f 218, f 219, f 220, f 221, f 222, f 223, f 224, f 225, f 226, f 227, f 228, f 229, f 230, f 231, f 232, f 233, f 234, f 235, f 236, f 237, f 238, f 239, f 240, f 241, f 242, f 243, f 244, f 245, f 246, f 247, f 248, f 249, f 250, f 251, f 252, f 253, f 254, f 255, f 256, f 257, f 258, f 259], []⟩ : Act)) ?_ ?_
      rotate_left
      · skip
        intro _ _ _ _
        cases fi with
        | false =>
          go_wp2
          refine Met.intro ?_
          go_step
          exact ⟨_, frm_exists ⟨hP3, hA9, hA10⟩ (by kernel_rfl)⟩
        | true =>
          have kff := hP3.ff
          have k9 := hP3.f9
          by_cases ht : tt = 28 ∨ tt = 26
          · obtain ⟨hP4, hA4⟩ := hP3.set 9 (.bool false) { r with buf := v, level := L2, pw := false, pc := false, data := dv } rfl hP3.buf hP3.stk
            have hA11 := hA9.trans hA4
            have hA12 := hA10.trans hA4
            rcases ht with rfl | rfl <;> (go_wp2; refine Met.intro ?_; go_step; exact ⟨false, frm_exists ⟨hP4, hA11, hA12⟩ (by kernel_rfl)⟩)
          · have t1 : (tt == 28) = false := beq_eq_false_iff_ne.2 fun e => ht (.inl e)
            have t2 : (tt == 26) = false := beq_eq_false_iff_ne.2 fun e => ht (.inr e)
            clear ht
            go_wp2
            refine Met.intro ?_
            go_step
            exact ⟨_, frm_exists ⟨hP3, hA9, hA10⟩ (by kernel_rfl)⟩
      intro _ we hinv
      obtain ⟨pw2, f4, ⟨hP4, hA11, hA12⟩, ha⟩ := hinv
      subst ha
      dsimp only
      clear hP3 hA9 hA10
      go_upto_region 36 with fail
      refine wp_cut (fun a' wf => ∃ (b : Bool) (f : Nat → Value), wf = we ∧
        a' = (⟨#[.pointer (some ⟨pp, 0, none⟩), f 1, .int .u32 0, f 3, f 4, .int .u32 hv, .bool false, .bool skip, .int .u32 tt, .slice (some ⟨tk2.b, tk2.off, none⟩) n tk2.cap, f 10, f 11, f 12, f 13, f 14, f 15, f 16, f 17, f 18, f 19, f 20, f 21, f 22, f 23, f 24, f 25, f 26, f 27, f 28, f 29, f 30, f 31, f 32, f 33, f 34, f 35, f 36, f 37, f 38, f 39, f 40, f 41, f 42, f 43, f 44, f 45, f 46, f 47, f 48, f 49, f 50, f 51, f 52, f 53, f 54, f 55, f 56, f 57, f 58, f 59, f 60, f 61, f 62, f 63, f 64, f 65, f 66, f 67, f 68, f 69, f 70, f 71, f 72, f 73, f 74, f 75, f 76, f 77, f 78, f 79, f 80, f 81, f 82, f 83, f 84, f 85, f 86, f 87, f 88, f 89, f 90, f 91, f 92, f 93, f 94, f 95, f 96, f 97, f 98, f 99, f 100, f 101, f 102, f 103, f 104, f 105, f 106, f 107, f 108, f 109, f 110, f 111, f 112, f 113, f 114, f 115, f 116, f 117, f 118, f 119, f 120, f 121, f 122, f 123, f 124, f 125, f 126, f 127, f 128, f 129, f 130, f 131, f 132, f 133, f 134, f 135, f 136, f 137, f 138, f 139, f 140, f 141, f 142, f 143, f 144, f 145, f 146, f 147, f 148, f 149, f 150, f 151, f 152, f 153, f 154, f 155, f 156, f 157, f 158, f 159, f 160, f 161, f 162, f 163, f 164, f 165, f 166, f 167, f 168, f 169, f 170, f 171, f 172, f 173, f 174, f 175, f 176, f 177, f 178, f 179, f 180, f 181, f 182, f 183, f 184, f 185, f 186, f 187, f 188, f 189, f 190, f 191, f 192, f 193, f 194, f 195, f 196, f 197, f 198, f 199, f 200, f 201, f 202, f 203, f 204, f 205, f 206, f 207, f 208, f 209, f 210, f 211, f 212, f 213, f 214, f 215, f 216, f 217, f 218, f 219, f 220, f 221, f 222, f 223, f 224, f 225, f 226, f 227, f 228, f 229, f 230, f 231, f 232, f 233, f 234, f 235, f 236, f 237, .bool b, f 239, f 240, f 241, f 242, f 243, f 244, f 245, f 246, f 247, f 248, f 249, f 250, f 251, f 252, f 253, f 254, f 255, f 256, f 257, f 258, f 259], []⟩ : Act)) ?_ ?_
      rotate_left
      · skip
        intro _ _ _ _
        by_cases h1 : n = 1
        · have hl1 : tk2.bs.length = 1 := by rw [← HN.out]; exact h1
          have c0 : we.cell? ⟨tk2.b, tk2.off, none⟩ = some (.int .u8 (byte tk2.bs 0)) := by
            have h2 : tk2.Ok we := by
              have hkd : tk2 = X.tok tt q1 q := HTK.out
              rw [hkd]; exact hP4.toPB.tok tt hqx
            have := h2.lies 0 (by omega)
            rwa [Nat.add_zero] at this
          obtain ⟨c, hc⟩ : ∃ c, c = byte tk2.bs 0 := ⟨_, rfl⟩
          rw [← hc] at c0
          clear hl1 hc
          subst h1
          cases h44 : (c == 44) with
          | true => go_wp2; refine Met.intro ?_; go_step; exact ⟨true, frm_exists rfl (by kernel_rfl)⟩
          | false =>
          cases h58 : (c == 58) with
          | true => go_wp2; refine Met.intro ?_; go_step; exact ⟨true, frm_exists rfl (by kernel_rfl)⟩
          | false => go_wp2; refine Met.intro ?_; go_step; exact ⟨false, frm_exists rfl (by kernel_rfl)⟩
        · have z1 : ((n : Int) == 1) = false := beq_eq_false_iff_ne.2 (by omega)
          have z2 : (n == 1) = false := beq_eq_false_iff_ne.2 h1
          go_wp2; refine Met.intro ?_; go_step; exact ⟨false, frm_exists rfl (by kernel_rfl)⟩
      intro _ wf hinv
      obtain ⟨b, f5, rfl, ha⟩ := hinv
      subst ha
      dsimp only
      go_upto_if 238 with fail
      refine wp_cut (fun a' wg => ∃ (skip' : Bool) (f : Nat → Value), (∃ wsl v'', wsl.filter nb = [] ∧ wsl.length ≤ 1 ∧ PAt X pp B wg q { r with buf := v'', level := L2, pw := pw2, pc := false, data := dv } (bl ++ wsl) fns ∧ Adv B w wg ∧ Adv B w4 wg) ∧
        a' = (⟨#[.pointer (some ⟨pp, 0, none⟩), f 1, .int .u32 0, f 3, f 4, .int .u32 hv, .bool false, .bool skip', .int .u32 tt, .slice (some ⟨tk2.b, tk2.off, none⟩) n tk2.cap, f 10, f 11, f 12, f 13, f 14, f 15, f 16, f 17, f 18, f 19, f 20, f 21, f 22, f 23, f 24, f 25, f 26, f 27, f 28, f 29, f 30, f 31, f 32, f 33, f 34, f 35, f 36, f 37, f 38, f 39, f 40, f 41, f 42, f 43, f 44, f 45, f 46, f 47, f 48, f 49, f 50, f 51, f 52, f 53, f 54, f 55, f 56, f 57, f 58, f 59, f 60, f 61, f 62, f 63, f 64, f 65, f 66, f 67, f 68, f 69, f 70, f 71, f 72, f 73, f 74, f 75, f 76, f 77, f 78, f 79, f 80, f 81, f 82, f 83, f 84, f 85, f 86, f 87, f 88, f 89, f 90, f 91, f 92, f 93, f 94, f 95, f 96, f 97, f 98, f 99, f 100, f 101, f 102, f 103, f 104, f 105, f 106, f 107, f 108, f 109, f 110, f 111, f 112, f 113, f 114, f 115, f 116, f 117, f 118, f 119, f 120, f 121, f 122, f 123, f 124, f 125, f 126, f 127, f 128, f 129, f 130, f 131, f 132, f 133, f 134, f 135, f 136, f 137, f 138, f 139, f 140, f 141, f 142, f 143, f 144, f 145, f 146, f 147, f 148, f 149, f 150, f 151, f 152, f 153, f 154, f 155, f 156, f 157, f 158, f 159, f 160, f 161, f 162, f 163, f 164, f 165, f 166, f 167, f 168, f 169, f 170, f 171, f 172, f 173, f 174, f 175, f 176, f 177, f 178, f 179, f 180, f 181, f 182, f 183, f 184, f 185, f 186, f 187, f 188, f 189, f 190, f 191, f 192, f 193, f 194, f 195, f 196, f 197, f 198, f 199, f 200, f 201, f 202, f 203, f 204, f 205, f 206, f 207, f 208, f 209, f 210, f 211, f 212, f 213, f 214, f 215, f 216, f 217, f 218, f 219, f 220, f 221, f 222, f 223, f 224, f 225, f 226, f 227, f 228, f 229, f 230, f 231, f 232, f 233, f 234, f 235, f 236, f 237, f 238, f 239, f 240, f 241, f 242, f 243, f 244, f 245, f 246, f 247, f 248, f 249, f 250, f 251, f 252, f 253, f 254, f 255, f 256, f 257, f 258, f 259], []⟩ : Act)) ?_ ?_
      rotate_left
      · skip
        intro _ _ _ _
        have k9 := hP4.f9
        dsimp only at k9
        cases b with
        | true =>
          go_wp2
          refine Met.intro ?_
          go_step
          exact ⟨true, frm_exists ⟨[], _, rfl, Nat.zero_le _, by rw [List.append_nil]; exact hP4, hA11, hA12⟩ (by kernel_rfl)⟩
        | false =>
        cases pw2 with
        | false =>
          go_wp2
          refine Met.intro ?_
          go_step
          exact ⟨false, frm_exists ⟨[], _, rfl, Nat.zero_le _, by rw [List.append_nil]; exact hP4, hA11, hA12⟩ (by kernel_rfl)⟩
        | true =>
        cases skip with
        | true =>
          go_wp2
          refine Met.intro ?_
          go_step
          exact ⟨false, frm_exists ⟨[], _, rfl, Nat.zero_le _, by rw [List.append_nil]; exact hP4, hA11, hA12⟩ (by kernel_rfl)⟩
        | false =>
        cases h29 : (tt == 29) with
        | true =>
          have h29' : (tt != 29) = false := by rw [bne, h29]; rfl
          go_wp2
          refine Met.intro ?_
          go_step
          exact ⟨false, frm_exists ⟨[], _, rfl, Nat.zero_le _, by rw [List.append_nil]; exact hP4, hA11, hA12⟩ (by kernel_rfl)⟩
        | false =>
          have h29' : (tt != 29) = true := by rw [bne, h29]; rfl
          have hl1 : bl.length ≤ 1000000 := by have := HBIG.out; have := hP4.lx.pl; have := HBK.out; omega
          have hpu := fun (w9 : World) (r9 : PR) (g : Nat) (hP : PAt X pp B w9 q r9 bl fns) (hk : (Tok.mk 20 g 0 1 [32]).Ok w9) => push_any X pp B w9 q r9 bl fns hP (Tok.mk 20 g 0 1 [32]) hk hl1
          go_wp2_with (first | (go_at_call 77; ((with_reducible refine (ws_bytes wf).mono ?_); rintro x w6 ⟨g6, rfl, hok6, hb6⟩; have hP6 := hP4.below hb6; have hA13 := hA11.trans (Adv.ofBelow hb6 hP4.hB); have hA14 := hA12.trans (Adv.ofBelow hb6 hP4.hB))) | (go_at_call 60; ((refine (hpu _ _ _ hP6 (hok6 20)).mono ?_); rintro x w7 ⟨rfl, v3, hP7, hA15⟩)))
          refine Met.intro ?_
          go_step
          exact ⟨false, frm_exists ⟨[Tok.mk 20 g6 0 1 [32]], _, rfl, Nat.le_refl _, hP7, hA13.trans hA15, hA14.trans hA15⟩ (by kernel_rfl)⟩
      intro _ wg hinv
      obtain ⟨skip', f6, ⟨wsl, v'', hws1, hws2, hP5, hA13, hA14⟩, ha⟩ := hinv
      subst ha
      dsimp only
      have HWS := Lib.hid (show _ ∧ _ from ⟨hws1, hws2⟩)
      clear hP4 hA11 hA12 hws1 hws2
      go_upto_if 255 with fail
      refine wp_cut (fun a' wh => ∃ (skip2 : Bool) (f : Nat → Value), wh = wg ∧
        a' = (⟨#[.pointer (some ⟨pp, 0, none⟩), f 1, .int .u32 0, f 3, f 4, .int .u32 hv, .bool false, .bool skip2, .int .u32 tt, .slice (some ⟨tk2.b, tk2.off, none⟩) n tk2.cap, f 10, f 11, f 12, f 13, f 14, f 15, f 16, f 17, f 18, f 19, f 20, f 21, f 22, f 23, f 24, f 25, f 26, f 27, f 28, f 29, f 30, f 31, f 32, f 33, f 34, f 35, f 36, f 37, f 38, f 39, f 40, f 41, f 42, f 43, f 44, f 45, f 46, f 47, f 48, f 49, f 50, f 51, f 52, f 53, f 54, f 55, f 56, f 57, f 58, f 59, f 60, f 61, f 62, f 63, f 64, f 65, f 66, f 67, f 68, f 69, f 70, f 71, f 72, f 73, f 74, f 75, f 76, f 77, f 78, f 79, f 80, f 81, f 82, f 83, f 84, f 85, f 86, f 87, f 88, f 89, f 90, f 91, f 92, f 93, f 94, f 95, f 96, f 97, f 98, f 99, f 100, f 101, f 102, f 103, f 104, f 105, f 106, f 107, f 108, f 109, f 110, f 111, f 112, f 113, f 114, f 115, f 116, f 117, f 118, f 119, f 120, f 121, f 122, f 123, f 124, f 125, f 126, f 127, f 128, f 129, f 130, f 131, f 132, f 133, f 134, f 135, f 136, f 137, f 138, f 139, f 140, f 141, f 142, f 143, f 144, f 145, f 146, f 147, f 148, f 149, f 150, f 151, f 152, f 153, f 154, f 155, f 156, f 157, f 158, f 159, f 160, f 161, f 162, f 163, f 164, f 165, f 166, f 167, f 168, f 169, f 170, f 171, f 172, f 173, f 174, f 175, f 176, f 177, f 178, f 179, f 180, f 181, f 182, f 183, f 184, f 185, f 186, f 187, f 188, f 189, f 190, f 191, f 192, f 193, f 194, f 195, f 196, f 197, f 198, f 199, f 200, f 201, f 202, f 203, f 204, f 205, f 206, f 207, f 208, f 209, f 210, f 211, f 212, f 213, f 214, f 215, f 216, f 217, f 218, f 219, f 220, f 221, f 222, f 223, f 224, f 225, f 226, f 227, f 228, f 229, f 230, f 231, f 232, f 233, f 234, f 235, f 236, f 237, f 238, f 239, f 240, f 241, f 242, f 243, f 244, f 245, f 246, f 247, f 248, f 249, f 250, f 251, f 252, f 253, f 254, f 255, f 256, f 257, f 258, f 259], []⟩ : Act)) ?_ ?_
      rotate_left
      · skip
        intro _ _ _ _
        cases h28 : (tt == 28) with
        | true => go_wp2; refine Met.intro ?_; go_step; exact ⟨true, frm_exists rfl (by kernel_rfl)⟩
        | false => go_wp2; refine Met.intro ?_; go_step; exact ⟨skip', frm_exists rfl (by kernel_rfl)⟩
      intro _ wh hinv
      obtain ⟨skip2, f7, rfl, ha⟩ := hinv
      subst ha
      dsimp only
      obtain ⟨g1, g2, g3, g4, g5, g6, g7, g8, g9, g10⟩ := HBK.out
      obtain ⟨hws1, hws2⟩ := HWS.out
      have hkd : tk2 = X.tok tt q1 q := HTK.out
      have hok : tk2.Ok wh := by rw [hkd]; exact hP5.toPB.tok tt hqx
      have htt : tk2.tt = tt := by rw [hkd]; rfl
      have hpu := push_any X pp B wh q _ _ fns hP5 tk2 hok (by rw [List.length_append]; have := HBIG.out; omega)
      rw [htt] at hpu
      simp only [Tok.val] at hpu
      rw [← HN.out] at hpu
      have hnb : nb tk2 = true := by rw [nb, htt]; simpa using g5
      have hfil : (bl ++ wsl ++ [tk2]).filter nb ++ X.toks l2 = vals := by
        rw [← g2, List.filter_append, List.filter_append, hws1, List.append_nil, ← hkd]
        simp [hnb]
      have HF := Lib.hid (show gk = l2.length + 1 ∧ (bl ++ wsl ++ [tk2]).filter nb ++ X.toks l2 = vals ∧ Bal lvx l2 ∧ Toks X q l2 e ∧ (bl ++ wsl ++ [tk2]).length ≤ 2 * q ∧ lvx ≤ q ∧ L2 = lvx from
        ⟨g1, hfil, g3, g4, by rw [List.length_append, List.length_append, List.length_singleton]; omega, by have := HLV.out; omega, g10⟩)
      clear g1 g2 g3 g4 g5 g6 g7 g8 g9 g10 hws1 hws2 hkd htt hnb hfil
      go_wp2_with (go_at_call 60; ((with_reducible refine hpu.mono ?_); rintro x w8 ⟨rfl, v3, hP6, hA15⟩))
      obtain ⟨g1, g2, g3, g4, g5, g6, g7⟩ := HF.out
      rw [g7] at hP6
      have hSS := HS.out.1 _ (hA14.trans hA15)
      rw [← HDV.out] at hSS
      refine Handed.intro l2.length ?measure ?_
      rotate_left
      go_step
      exact ⟨false, skip2, frm_exists ⟨⟨q, l2, lvx, _, v3, _, _, g3, g4, rfl, g2, hP6, hA13.trans hA15, hSS, g5, g6⟩, hA14.trans hA15⟩ (by kernel_rfl)⟩
      case measure => omega
end
end Go.Proofs.YtlglijnaeaonpaaGreatDoor.Css
/- What a sheet's states do: a rule, an at-rule, the end. -/
namespace Go.Proofs.YtlglijnaeaonpaaGreatDoor.Css
open Go.RowKit

def RetP (gt : Int) (R : World → Prop) (e : Ending) (w' : World) : Prop := e = .returned (.int .u32 gt) ∧ R w'
/-- A kind that begins a rule. -/
def RuleK (tt : Int) : Prop := (tt == 21) = false ∧ (tt == 22) = false ∧ (tt == 3) = false ∧ (tt == 32) = false ∧ (tt == 34) = false ∧ (tt == 0) = false ∧ (tt == 31) = false

section
variable (X : Lx) (pp B : Nat) (w : World) (p : Nat) (r : PR) (toks : List Tok) (fns : List Nat) (h : PAt X pp B w p r toks fns)
include h
theorem sheet_q (gt : Int) (R : World → Prop) (hk : RuleK r.tt) (hcall : Calls Tryz.prog 62 #[.pointer (some ⟨pp, 0, none⟩)] w (RetP gt R)) : Calls Tryz.prog 39 #[.pointer (some ⟨pp, 0, none⟩)] w (RetP gt R) := by
  have k7 := h.f7
  obtain ⟨tt, htt⟩ : ∃ tt, tt = r.tt := ⟨_, rfl⟩
  rw [← htt] at k7 hk
  obtain ⟨a1, a2, a3, a4, a5, a6, a7⟩ := hk
  clear htt
  go_enter Tryz.func39, Tryz.ntmps39
  go_wp2_with (go_at_call 62; ((with_reducible refine hcall.mono ?_); rintro e w1 ⟨rfl, hp⟩))
  go_ret
  exact ⟨rfl, hp⟩
theorem sheet_a (gt : Int) (R : World → Prop) (hk : r.tt = 3) (hcall : Calls Tryz.prog 54 #[.pointer (some ⟨pp, 0, none⟩)] w (RetP gt R)) : Calls Tryz.prog 39 #[.pointer (some ⟨pp, 0, none⟩)] w (RetP gt R) := by
  have k7 := h.f7
  rw [hk] at k7
  clear hk
  go_enter Tryz.func39, Tryz.ntmps39
  go_wp2_with (go_at_call 54; ((with_reducible refine hcall.mono ?_); rintro e w1 ⟨rfl, hp⟩))
  go_ret
  exact ⟨rfl, hp⟩
theorem sheet_end (hk : r.tt = 0) : Calls Tryz.prog 39 #[.pointer (some ⟨pp, 0, none⟩)] w fun e w' => e = .returned (.int .u32 0) ∧ w = w' := by
  have k7 := h.f7
  rw [hk] at k7
  clear hk
  go_enter Tryz.func39, Tryz.ntmps39
  go_wp2
  go_ret
  exact ⟨rfl, rfl⟩
theorem rlist_q (gt : Int) (R : World → Prop) (hk : RuleK r.tt) (hcall : Calls Tryz.prog 62 #[.pointer (some ⟨pp, 0, none⟩)] w (RetP gt R)) : Calls Tryz.prog 75 #[.pointer (some ⟨pp, 0, none⟩)] w (RetP gt R) := by
  have k7 := h.f7
  obtain ⟨tt, htt⟩ : ∃ tt, tt = r.tt := ⟨_, rfl⟩
  rw [← htt] at k7 hk
  obtain ⟨a1, a2, a3, a4, a5, a6, a7⟩ := hk
  clear htt
  go_enter Tryz.func75, Tryz.ntmps75
  go_wp2_with (go_at_call 62; ((with_reducible refine hcall.mono ?_); rintro e w1 ⟨rfl, hp⟩))
  go_ret
  exact ⟨rfl, hp⟩
theorem rlist_a (gt : Int) (R : World → Prop) (hk : r.tt = 3) (hcall : Calls Tryz.prog 54 #[.pointer (some ⟨pp, 0, none⟩)] w (RetP gt R)) : Calls Tryz.prog 75 #[.pointer (some ⟨pp, 0, none⟩)] w (RetP gt R) := by
  have k7 := h.f7
  rw [hk] at k7
  clear hk
  go_enter Tryz.func75, Tryz.ntmps75
  go_wp2_with (go_at_call 54; ((with_reducible refine hcall.mono ?_); rintro e w1 ⟨rfl, hp⟩))
  go_ret
  exact ⟨rfl, hp⟩
end
end Go.Proofs.YtlglijnaeaonpaaGreatDoor.Css
