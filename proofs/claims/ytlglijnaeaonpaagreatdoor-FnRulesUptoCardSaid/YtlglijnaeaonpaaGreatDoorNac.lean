/- The text of a sheet, walked. -/
import Derived.Test.YtlglijnaeaonpaaGreatDoorNab
set_option linter.all false
/- The text of a sheet, walked. -/
namespace Go.Proofs.YtlglijnaeaonpaaGreatDoor.Css
open Go.RowKit

theorem declsText_nil (w : World) (v : Value) (st : Int) (h : DeclsMem w v []) : Calls Tryz.prog 12 #[v, .int .i64 st] w (TxPost w []) := by
  obtain ⟨a, c, rfl, _, _, _⟩ := h
  have hstart := Tx.start w
  go_enter Tryz.func12, Tryz.ntmps12
  go_wp2
  refine wp_loop_once fun _ => ?_
  go_wp2
  go_ret
  exact ⟨_, rfl, hstart⟩
theorem dtext_pos {st : Int} {d : List UInt8 × List (List UInt8)} {ds : List (List UInt8 × List (List UInt8))} : 0 < (dtext st (d :: ds)).length := by
  simp only [dtext, declOne, declHead, List.length_append, List.length_cons, List.length_nil]
  omega
theorem declsText_tx (w : World) (v : Value) (ds : List (List UInt8 × List (List UInt8))) (st : Int) (h : DeclsMem w v ds) (hok : DsOK ds) (hst : st = 0 ∨ st = 1 ∨ st = 2) : Calls Tryz.prog 12 #[v, .int .i64 st] w (TxPost w (dtext st ds)) := by
  cases ds with
  | nil => exact declsText_nil w v st h
  | cons d ds =>
    refine (declsText_any w v _ st h hok hst).mono ?_
    rintro e w' ⟨u, rfl, hT⟩
    refine ⟨u, rfl, hT, fun e => ?_⟩
    subst e
    have h0 : 0 < (dtext st (d :: ds)).length := dtext_pos
    rcases hT.own.2 with ⟨_, h1⟩ | ⟨_, _, _, h1, _⟩
    · omega
    · cases h1

set_option maxRecDepth 100000 in
set_option maxHeartbeats 8000000 in
theorem text_step (st : Int) (hst0 : st = 0 ∨ st = 1 ∨ st = 2) (d : Nat) (hd : d ≤ 3) (IH : ∀ d', d = d' + 1 → TextP st d') : TextP st d := by
  intro w v ps h hok
  obtain ⟨a, c, rfl, hc1, hc2⟩ := h.shape
  have hstart := Tx.start w
  have hgap := fun w => gap_any w st hst0
  have hst := Lib.hid hst0
  clear hst0
  rcases Nat.eq_zero_or_pos ps.length with h0 | h0
  · have e : ptext st d ps = [] := by rw [List.eq_nil_of_length_eq_zero h0, ptext_eq]; rfl
    rw [h0, e]
    clear h0 hc1 h hok IH hgap e
    go_enter Tryz.func6, Tryz.ntmps6
    go_wp2
    refine wp_loop_once fun _ => ?_
    go_wp2
    go_ret
    exact ⟨_, rfl, hstart⟩
  obtain ⟨g, o, rfl, hcell⟩ := h.at h0
  have HC := Lib.hid hcell
  have HOK := Lib.hid hok
  have HI := Lib.hid IH
  have h3 := hok.le
  clear hcell h IH hok
  have hg2 : (gapS st).data.toList.length ≤ 2 := gapL_len st
  go_enter Tryz.func6, Tryz.ntmps6
  go_wp2
  go_loopg [5, 11] ps.length (fun k v5 i wr => ∃ q, q ≤ ps.length ∧ k = ps.length - q ∧ i = .int .i64 q ∧ Tx w.heap.size w wr v5 (ptext st d (ps.take q)))
  case atStart => exact ⟨0, Nat.zero_le _, rfl, rfl, by rw [List.take_zero, ptext_eq]; exact hstart⟩
  case round =>
    clear hstart
    obtain ⟨q, hq, hk, rfl, hT⟩ := hrel
    have HK := Lib.hid hk
    clear hk
    obtain ⟨va, vn, vc, rfl⟩ := hT.shape
    by_cases hlt : q < ps.length
    · obtain ⟨p, hx⟩ : ∃ p, p = ps[q] := ⟨_, rfl⟩
      obtain ⟨nv, wv, dv, pv, k0, k1, k2, k3, k4, hm, hpm⟩ := HC.out q hlt
      obtain ⟨hvals, hpo⟩ := HOK.out.part ps[q] (List.getElem_mem hlt)
      rw [← hx] at k0 hm hpm hvals hpo
      have HLT := Lib.hid hlt
      obtain ⟨T, hTe⟩ : ∃ T, T = ptext st d (ps.take q) := ⟨_, rfl⟩
      have HTK := Lib.hid (show ptext st d (ps.take (q + 1)) = T ++ headT st p (bodyT st d p) ++ gapL st from by
        rw [List.take_succ_eq_append_getElem hlt, ptext_snoc, ← hx, ← hTe])
      have hTl : T.length ≤ 133100000 := by rw [hTe]; exact ptext_len (HOK.out.take q) hd
      have hhl := part_len (st := st) hvals hpo
      have hp11 : 11 ^ d ≤ 11 ^ 3 := Nat.pow_le_pow_right (by omega) hd
      rw [← hTe] at hT
      have hnl : 0 < p.name.length ∧ p.name.length ≤ 60 := by
        rcases hpo with h | h | ⟨h, _⟩
        · refine ⟨?_, h.nm.le⟩
          obtain ⟨ts, hne, hch, _⟩ := h.nm.ts
          cases ts with
          | nil => exact absurd rfl hne
          | cons a ts => have := Chain.mem hch a (by simp); omega
        · exact h.nm.len
        · exact h.nm.len
      obtain ⟨hn0, hn1⟩ := hnl
      replace k0 := (hT.bel.cell (p := ⟨g, o + q * 5, none⟩) (World.block_lt_of_cell? w _ k0)).trans k0
      replace k1 := (hT.bel.cell (p := ⟨g, o + q * 5 + 1, none⟩) (World.block_lt_of_cell? w _ k1)).trans k1
      replace k2 := (hT.bel.cell (p := ⟨g, o + q * 5 + 2, none⟩) (World.block_lt_of_cell? w _ k2)).trans k2
      replace k3 := (hT.bel.cell (p := ⟨g, o + q * 5 + 3, none⟩) (World.block_lt_of_cell? w _ k3)).trans k3
      replace k4 := (hT.bel.cell (p := ⟨g, o + q * 5 + 4, none⟩) (World.block_lt_of_cell? w _ k4)).trans k4
      obtain ⟨wa, wc0, rfl, _, _, _⟩ := id hm.ws
      obtain ⟨na, nc0, rfl, _, _, hnp⟩ := id hm.nm
      obtain ⟨nb, noff, rfl, hnL⟩ := hnp hn0
      obtain ⟨da, dc0, rfl, _, _, _⟩ := id hm.ds
      obtain ⟨pa, pc0, rfl, _, _⟩ := hpm.shape
      have HNL := Lib.hid hnL
      have HWM := Lib.hid hm.ws
      have HDM := Lib.hid hm.ds
      have HPM := Lib.hid hpm
      have HWX := Lib.hid (show ∀ x ∈ p.words, 0 < x.length ∧ x.length ≤ 60 from fun x hx => (hvals.vt x hx).len)
      have HW8 := Lib.hid hvals.le
      have hwl : (wordsL p.words).length ≤ 488 := by
        have h1 := wordsL_len p.words fun x hx => (hvals.vt x hx).le
        have h2 := hvals.le
        omega
      obtain ⟨kk, hkk⟩ : ∃ kk, kk = p.kind := ⟨_, rfl⟩
      rw [← hkk] at k0
      have HPOK := Lib.hid hpo
      have HKK := Lib.hid hkk
      have HVT := Lib.hid (fun x hx => (hvals.vt x hx).pos)
      have hhl2 : (headT st p (bodyT st d p)).length ≤ 13310000 := by rw [List.length_append] at hhl; omega
      have HHL := Lib.hid hhl2
      clear hm hpm hnp hnL hvals hpo hkk hx hTe hhl hp11 hhl2
      go_upto_region 4 with fail
      go_cut [7] (fun s wx => ∃ tg, s = .pointer (some ⟨tg, 0, none⟩) ∧ wx.heap[tg]? = some (.cells #[.string kk, .slice (some ⟨nb, noff, none⟩) p.name.length nc0, .slice wa p.words.length wc0, .slice da p.decls.length dc0, .slice pa p.parts.length pc0] 38 (0, 0)) ∧ Below wr.heap.size wr wx)
      case first =>
        have hb := (Below.refl wr.heap.size wr).alloc (Nat.le_refl _)
        go_wp2_with fail
        go_meet
        exact ⟨_, rfl, alloc_new _ _, hb _⟩
      case rest =>
      clear k0 k1 k2 k3 k4
      obtain ⟨tg, rfl, htg, hbx⟩ := hcut
      replace hT := hT.below hbx
      clear hbx
      have c0 := (fiveC htg).1
      rcases HPOK.out with hR | hR | ⟨hR, d', hdd, hP⟩
      · have hk : (kk.toList == [114, 117, 108, 101]) = true := by rw [HKK.out]; exact hR.k
        have HDO := Lib.hid hR.ds
        have hdl : (dtext st p.decls).length ≤ 5230 := by
          have h1 := dtext_len st p.decls hR.ds.fit
          have h2 := hR.ds.le
          omega
        have HE := Lib.hid (show ptext st d (ps.take (q + 1)) = T ++ p.name ++ gapL st ++ [123] ++ gapL st ++ dtext st p.decls ++ gapL st ++ [125] ++ gapL st from by
          rw [HTK.out]; simp only [headT, hR.k, cond_true, List.append_assoc])
        clear hR
        have c1 := (fiveC htg).2.1
        go_wp2_with (first | (at_builtin; refine app_t rfl (.tmp 48) (.tmp 50) rfl rfl hT rfl rfl (HNL.out.below (HNL.out.lt hn0) hT.bel) (by omega) ?_; intro v' w1q hT1 ho1; obtain ⟨va1, vn1, vc1, rfl⟩ := hT1.shape) | (go_at_call 16; ((with_reducible refine (hgap _).mono ?_); rintro e w' ⟨rfl, rfl⟩)) | (at_builtin; refine app_s rfl (.tmp 51) (.tmp 53) rfl rfl hT1 rfl (by simp only [List.length_append]; omega) ?_; intro v' w2q hT2 ho2; obtain ⟨va2, vn2, vc2, rfl⟩ := hT2.shape) | (at_builtin; refine app_t rfl (.tmp 54) (.tmp 55) rfl rfl (hT2.alloc _) rfl rfl (new1 _ 123 _ rfl) (by simp only [List.length_append, List.length_cons, List.length_nil]; omega) ?_; intro v' w3q hT3 ho3; obtain ⟨va3, vn3, vc3, rfl⟩ := hT3.shape) | (at_builtin; refine app_s rfl (.tmp 56) (.tmp 58) rfl rfl hT3 rfl (by simp only [List.length_append, List.length_cons, List.length_nil]; omega) ?_; intro v' w4q hT4 ho4; obtain ⟨va4, vn4, vc4, rfl⟩ := hT4.shape; have hH4 := ho4 _ _ _ _ ((ho1.trans (ho2.trans ((Oth.alloc _ _).trans ho3))) _ _ _ _ htg (by decide)) (by decide); have c3 := (fiveC hH4).2.2.2.1; have hdt := declsText_tx _ _ _ st (HDM.out.below hT4.bel) HDO.out hst.out) | (go_at_call 12; ((with_reducible refine hdt.mono ?_); rintro e w5q ⟨wv5, rfl, hTw5⟩; obtain ⟨gb5, wcap5, rfl, hlt5, hwc5, hL5⟩ := hTw5.lies; have hT5 := hT4.below hTw5.bel; clear hTw5)) | (at_builtin; refine app_t rfl (.tmp 60) (.tmp 64) rfl rfl hT5 rfl rfl hL5 (by simp only [List.length_append, List.length_cons, List.length_nil]; omega) ?_; intro v' w6q hT6 ho6; obtain ⟨va6, vn6, vc6, rfl⟩ := hT6.shape) | (at_builtin; refine app_s rfl (.tmp 65) (.tmp 67) rfl rfl hT6 rfl (by simp only [List.length_append, List.length_cons, List.length_nil]; omega) ?_; intro v' w7q hT7 ho7; obtain ⟨va7, vn7, vc7, rfl⟩ := hT7.shape) | (at_builtin; refine app_t rfl (.tmp 68) (.tmp 69) rfl rfl (hT7.alloc _) rfl rfl (new1 _ 125 _ rfl) (by simp only [List.length_append, List.length_cons, List.length_nil]; omega) ?_; intro v' w8q hT8 ho8; obtain ⟨va8, vn8, vc8, rfl⟩ := hT8.shape) | (at_builtin; refine app_s rfl (.tmp 85) (.tmp 87) rfl rfl hT8 rfl (by simp only [List.length_append, List.length_cons, List.length_nil]; omega) ?_; intro v' w99q hT99 ho99; obtain ⟨va99, vn99, vc99, rfl⟩ := hT99.shape))
        have HT99 := Lib.hid hT99
        clear hT99
        go_roundg (ps.length - (q + 1))
        case measure => have h1 := HK.out; have h2 := HLT.out; omega
        case rel => exact ⟨q + 1, HLT.out, rfl, by go_num, by rw [HE.out]; exact HT99.out⟩

      · have hk : (kk.toList == [97, 116]) = true := by rw [HKK.out]; exact hR.k
        have hk0 : (kk.toList == [114, 117, 108, 101]) = false := by rw [beq_iff_eq.1 hk]; decide
        have HWP := Lib.hid (show 0 < (wordsL p.words).length from Nat.lt_of_lt_of_le (by omega) (wordsL_pos hR.ws HVT.out))
        have HE := Lib.hid (show ptext st d (ps.take (q + 1)) = T ++ [64] ++ p.name ++ wordsL p.words ++ [59] ++ gapL st from by
          rw [HTK.out]; simp only [headT, hR.k, kinds.2.2 hR.k, cond_true, cond_false, List.append_assoc])
        clear hR
        go_upto_region 12 with fail
        have hTd := hT.below (w' := wc.drew) ⟨rfl, rfl, rfl, Nat.le_refl _, fun _ _ => rfl⟩
        have hHd := keepB (w' := wc.drew) ⟨rfl, rfl, rfl, Nat.le_refl _, fun _ _ => rfl⟩ htg
        clear hT htg c0
        refine wp_region_held_drew (S := fun w' => w'.cell? ⟨tg, 1, none⟩ = some (.slice (some ⟨nb, noff, none⟩) p.name.length nc0) ∧ w'.cell? ⟨tg, 2, none⟩ = some (.slice wa p.words.length wc0)) (by kernel_rfl) ?_ (fun hHeld => ?_)
        · exact ⟨(fiveC hHd).2.1, (fiveC hHd).2.2.1⟩
        generalize World.drew wc = wd at hTd hHd hHeld ⊢
        refine wpAnyH_take (i := 0) (v := ?_) rfl (by kernel_rfl) (by kernel_rfl) (by kernel_rfl) (fun _ _ _ h => h) (Or.inl ⟨by kernel_rfl, ?_⟩) (by assumption) ?_
        rotate_left
        · (intro w' hSw; (try dsimp only at hSw); go_simp); try with_reducible rfl
        go_simp
        refine wpAnyH_take (i := 3) (v := ?_) rfl (by kernel_rfl) (by kernel_rfl) (by kernel_rfl) (fun _ _ _ h => h) (Or.inl ⟨by kernel_rfl, ?_⟩) (by assumption) ?_
        rotate_left
        · (intro w' hSw; (try dsimp only at hSw); go_simp); try with_reducible rfl
        go_simp
        refine wpAnyH_take (i := 4) (v := ?_) rfl (by kernel_rfl) (by kernel_rfl) (by kernel_rfl) (fun _ _ _ h => h) (Or.inl ⟨by kernel_rfl, ?_⟩) (by assumption) ?_
        rotate_left
        · (intro w' hSw; (try dsimp only at hSw); go_simp); try with_reducible rfl
        go_simp
        refine wpAnyH_take (i := 6) (v := ?_) rfl (by kernel_rfl) (by kernel_rfl) (by kernel_rfl) (fun _ _ _ h => h) (Or.inl ⟨by kernel_rfl, ?_⟩) (by assumption) ?_
        rotate_left
        · (intro w' hSw; (try dsimp only at hSw); go_simp); try with_reducible rfl
        go_simp
        refine wpAnyH_take (i := 7) (v := ?_) rfl (by kernel_rfl) (by kernel_rfl) (by kernel_rfl) (fun _ _ _ h => h) (Or.inl ⟨by kernel_rfl, ?_⟩) (by assumption) ?_
        rotate_left
        · (intro w' hSw; (try dsimp only at hSw); go_simp); try with_reducible rfl
        go_simp
        refine wpAnyH_ready (rs := [1, 10]) (by kernel_rfl) (by simp) ?_
        refine AllReadyH.cons rfl (fun K hK => ?_) ?_
        · go_simp
          have hN1 := alloc_new wd (.cells #[.int .u8 64] 5)
          have hT1 := hTd.alloc (.cells #[.int .u8 64] 5)
          have hH1 := keepA (.cells #[.int .u8 64] 5) hHd
          have hap1 := hTd.fresh
          generalize wd.heap.size = b1 at hN1 hap1 ⊢
          generalize wd.alloc (.cells #[.int .u8 64] 5) = w1 at hN1 hT1 hH1 ⊢
          refine hK.out _ _ ?_ (fun hHeld => ?_)
          · exact ⟨(fiveC hH1).2.1, (fiveC hH1).2.2.1⟩
          clear hK K
          go_simp
          refine wpAnyH_ready (rs := [2, 10]) (by kernel_rfl) (by simp) ?_
          refine AllReadyH.cons rfl (fun K hK => ?_) ?_
          · refine step_t rfl (.tmp 73) (.tmp 74) rfl rfl hT1 rfl rfl (lies1 (c := 64) rfl hN1) (by simp only [List.length_cons, List.length_nil]; omega) ?_
            intro v2 w2 hT2 ho2 hk2
            have hH2 := ho2 _ _ _ _ hH1 (by decide)
            clear ho2 hk2
            refine hK.out _ _ ?_ (fun hHeld => ?_)
            · exact ⟨(fiveC hH2).2.1, (fiveC hH2).2.2.1⟩
            clear hK K
            go_simp
            refine wpAnyH_ready (rs := [5, 10]) (by kernel_rfl) (by simp) ?_
            refine AllReadyH.cons rfl (fun K hK => ?_) ?_
            · refine step_t rfl (.tmp 75) (.tmp 77) rfl rfl hT2 rfl rfl (HNL.out.below (HNL.out.lt hn0) hT2.bel) (by simp only [List.length_append, List.length_cons, List.length_nil]; omega) ?_
              intro v3 w3 hT3 ho3 hk3
              have hH3 := ho3 _ _ _ _ hH2 (by decide)
              clear ho3 hk3
              refine hK.out _ _ ?_ (fun hHeld => ?_)
              · exact ⟨(fiveC hH3).2.1, (fiveC hH3).2.2.1⟩
              clear hK K
              go_simp
              refine wpAnyH_ready (rs := [8, 10]) (by kernel_rfl) (by simp) ?_
              refine AllReadyH.cons rfl (fun K hK => ?_) ?_
              · go_simp
                refine (words_any w3 _ p.words (HWM.out.below hT3.bel) HWX.out HW8.out).mono ?_
                rintro e w4 ⟨wv4, rfl, hTw4⟩
                obtain ⟨gb4, wcap4, rfl, _, hlt4, hwc4, hL4⟩ := owned_lies hTw4.own HWP.out
                have hbel4 := hTw4.bel
                have hT4 := hT3.below hbel4
                have hH4 := keepB hbel4 hH3
                clear hTw4 hbel4
                refine hK.out _ _ ?_ (fun hHeld => ?_)
                · exact ⟨(fiveC hH4).2.1, (fiveC hH4).2.2.1⟩
                clear hK K
                go_simp
                refine wpAnyH_ready (rs := [9, 10]) (by kernel_rfl) (by simp) ?_
                refine AllReadyH.cons rfl (fun K hK => ?_) ?_
                · refine step_t rfl (.tmp 78) (.tmp 81) rfl rfl hT4 rfl rfl hL4 (by simp only [List.length_append, List.length_cons, List.length_nil]; omega) ?_
                  intro v5 w5 hT5 ho5 hk5
                  have hH5 := ho5 _ _ _ _ hH4 (by decide)
                  clear ho5 hk5
                  refine hK.out _ _ ?_ (fun hHeld => ?_)
                  · exact ⟨(fiveC hH5).2.1, (fiveC hH5).2.2.1⟩
                  clear hK K
                  go_simp
                  refine wpAnyH_ready (rs := [10]) (by kernel_rfl) (by simp) ?_
                  refine AllReadyH.cons rfl (fun K hK => ?_) AllReadyH.nil
                  go_simp
                  have hN6 := alloc_new w5 (.cells #[.int .u8 59] 5)
                  have hT6 := hT5.alloc (.cells #[.int .u8 59] 5)
                  have hH6 := keepA (.cells #[.int .u8 59] 5) hH5
                  have hap6 := hT5.fresh
                  generalize w5.heap.size = b6 at hN6 hap6 ⊢
                  generalize w5.alloc (.cells #[.int .u8 59] 5) = w6 at hN6 hT6 hH6 ⊢
                  refine hK.out _ _ ?_ (fun hHeld => ?_)
                  · exact ⟨(fiveC hH6).2.1, (fiveC hH6).2.2.1⟩
                  clear hK K
                  go_simp
                  refine wpAnyH_ready (rs := [11]) (by kernel_rfl) (by simp) ?_
                  refine AllReadyH.cons rfl (fun K hK => ?_) AllReadyH.nil
                  refine step_t rfl (.tmp 82) (.tmp 83) rfl rfl hT6 rfl rfl (lies1 (c := 59) rfl hN6) (by simp only [List.length_append, List.length_cons, List.length_nil]; omega) ?_
                  intro v7 w7 hT7 ho7 hk7
                  have hH7 := ho7 _ _ _ _ hH6 (by decide)
                  clear ho7 hk7
                  refine hK.out _ _ ?_ (fun hHeld => ?_)
                  · exact ⟨(fiveC hH7).2.1, (fiveC hH7).2.2.1⟩
                  clear hK K
                  go_simp
                  refine wpAnyH_take (i := 12) (v := ?_) rfl (by kernel_rfl) (by kernel_rfl) (by kernel_rfl) (fun _ _ _ h => h) (Or.inl ⟨by kernel_rfl, ?_⟩) (by assumption) ?_
                  rotate_left
                  · (intro w' hSw; (try dsimp only at hSw); go_simp); try with_reducible rfl
                  go_simp
                  refine wpAnyH_done (by kernel_rfl) ?_ _
                  obtain ⟨va99, vn99, vc99, rfl⟩ := hT7.shape
                  go_wp2_with (first | (go_at_call 16; ((with_reducible refine (hgap _).mono ?_); rintro e w' ⟨rfl, rfl⟩)) | (at_builtin; refine app_s rfl (.tmp 85) (.tmp 87) rfl rfl hT7 rfl (by simp only [List.length_append, List.length_cons, List.length_nil]; omega) ?_; intro v' w99q hT99 ho99; obtain ⟨va99, vn99, vc99, rfl⟩ := hT99.shape))
                  have HT99 := Lib.hid hT99
                  clear hT99
                  go_roundg (ps.length - (q + 1))
                  case measure => have h1 := HK.out; have h2 := HLT.out; omega
                  case rel => exact ⟨q + 1, HLT.out, rfl, by go_num, by rw [HE.out]; exact HT99.out⟩
                refine AllReadyH.cons rfl (fun K hK => ?_) AllReadyH.nil
                go_simp
                have hN8 := alloc_new w4 (.cells #[.int .u8 59] 5)
                have hT8 := hT4.alloc (.cells #[.int .u8 59] 5)
                have hH8 := keepA (.cells #[.int .u8 59] 5) hH4
                have hL8 := keepL ((Below.refl _ _).alloc (Nat.le_refl _) (.cells #[.int .u8 59] 5)) hL4 hlt4
                have hlt8 : gb4 < (w4.alloc (.cells #[.int .u8 59] 5)).heap.size := Nat.lt_of_lt_of_le hlt4 (((Below.refl w4.heap.size w4).alloc (Nat.le_refl _) (.cells #[.int .u8 59] 5)).size)
                have hap8 := hT4.fresh
                generalize w4.heap.size = b8 at hN8 hap8 ⊢
                generalize w4.alloc (.cells #[.int .u8 59] 5) = w8 at hN8 hT8 hH8 hL8 hlt8 ⊢
                refine hK.out _ _ ?_ (fun hHeld => ?_)
                · exact ⟨(fiveC hH8).2.1, (fiveC hH8).2.2.1⟩
                clear hK K
                go_simp
                refine wpAnyH_ready (rs := [9]) (by kernel_rfl) (by simp) ?_
                refine AllReadyH.cons rfl (fun K hK => ?_) AllReadyH.nil
                refine step_t rfl (.tmp 78) (.tmp 81) rfl rfl hT8 rfl rfl hL8 (by simp only [List.length_append, List.length_cons, List.length_nil]; omega) ?_
                intro v9 w9 hT9 ho9 hk9
                have hH9 := ho9 _ _ _ _ hH8 (by decide)
                have hN9x10 := hk9 _ _ hN8 hap8
                have hap9x10 := hT9.apart (c := 59) rfl hN9x10 (by intro e; have h1 := congrArg List.length e; simp only [List.length_append, List.length_cons, List.length_nil] at h1; omega) (by intro e; have h1 := congrArg List.length e; simp only [List.length_append, List.length_cons, List.length_nil] at h1; omega)
                clear ho9 hk9
                refine hK.out _ _ ?_ (fun hHeld => ?_)
                · exact ⟨(fiveC hH9).2.1, (fiveC hH9).2.2.1⟩
                clear hK K
                go_simp
                refine wpAnyH_ready (rs := [11]) (by kernel_rfl) (by simp) ?_
                refine AllReadyH.cons rfl (fun K hK => ?_) AllReadyH.nil
                refine step_t rfl (.tmp 82) (.tmp 83) rfl rfl hT9 rfl rfl (lies1 (c := 59) rfl hN9x10) (by simp only [List.length_append, List.length_cons, List.length_nil]; omega) ?_
                intro v10 w10 hT10 ho10 hk10
                have hH10 := ho10 _ _ _ _ hH9 (by decide)
                clear ho10 hk10
                refine hK.out _ _ ?_ (fun hHeld => ?_)
                · exact ⟨(fiveC hH10).2.1, (fiveC hH10).2.2.1⟩
                clear hK K
                go_simp
                refine wpAnyH_take (i := 12) (v := ?_) rfl (by kernel_rfl) (by kernel_rfl) (by kernel_rfl) (fun _ _ _ h => h) (Or.inl ⟨by kernel_rfl, ?_⟩) (by assumption) ?_
                rotate_left
                · (intro w' hSw; (try dsimp only at hSw); go_simp); try with_reducible rfl
                go_simp
                refine wpAnyH_done (by kernel_rfl) ?_ _
                obtain ⟨va99, vn99, vc99, rfl⟩ := hT10.shape
                go_wp2_with (first | (go_at_call 16; ((with_reducible refine (hgap _).mono ?_); rintro e w' ⟨rfl, rfl⟩)) | (at_builtin; refine app_s rfl (.tmp 85) (.tmp 87) rfl rfl hT10 rfl (by simp only [List.length_append, List.length_cons, List.length_nil]; omega) ?_; intro v' w99q hT99 ho99; obtain ⟨va99, vn99, vc99, rfl⟩ := hT99.shape))
                have HT99 := Lib.hid hT99
                clear hT99
                go_roundg (ps.length - (q + 1))
                case measure => have h1 := HK.out; have h2 := HLT.out; omega
                case rel => exact ⟨q + 1, HLT.out, rfl, by go_num, by rw [HE.out]; exact HT99.out⟩
              refine AllReadyH.cons rfl (fun K hK => ?_) AllReadyH.nil
              go_simp
              have hN11 := alloc_new w3 (.cells #[.int .u8 59] 5)
              have hT11 := hT3.alloc (.cells #[.int .u8 59] 5)
              have hH11 := keepA (.cells #[.int .u8 59] 5) hH3
              have hap11 := hT3.fresh
              generalize w3.heap.size = b11 at hN11 hap11 ⊢
              generalize w3.alloc (.cells #[.int .u8 59] 5) = w11 at hN11 hT11 hH11 ⊢
              refine hK.out _ _ ?_ (fun hHeld => ?_)
              · exact ⟨(fiveC hH11).2.1, (fiveC hH11).2.2.1⟩
              clear hK K
              go_simp
              refine wpAnyH_ready (rs := [8]) (by kernel_rfl) (by simp) ?_
              refine AllReadyH.cons rfl (fun K hK => ?_) AllReadyH.nil
              go_simp
              refine (words_any w11 _ p.words (HWM.out.below hT11.bel) HWX.out HW8.out).mono ?_
              rintro e w12 ⟨wv12, rfl, hTw12⟩
              obtain ⟨gb12, wcap12, rfl, _, hlt12, hwc12, hL12⟩ := owned_lies hTw12.own HWP.out
              have hbel12 := hTw12.bel
              have hT12 := hT11.below hbel12
              have hH12 := keepB hbel12 hH11
              have hN12x10 := keepB hbel12 hN11
              clear hTw12 hbel12
              refine hK.out _ _ ?_ (fun hHeld => ?_)
              · exact ⟨(fiveC hH12).2.1, (fiveC hH12).2.2.1⟩
              clear hK K
              go_simp
              refine wpAnyH_ready (rs := [9]) (by kernel_rfl) (by simp) ?_
              refine AllReadyH.cons rfl (fun K hK => ?_) AllReadyH.nil
              refine step_t rfl (.tmp 78) (.tmp 81) rfl rfl hT12 rfl rfl hL12 (by simp only [List.length_append, List.length_cons, List.length_nil]; omega) ?_
              intro v13 w13 hT13 ho13 hk13
              have hH13 := ho13 _ _ _ _ hH12 (by decide)
              have hN13x10 := hk13 _ _ hN12x10 hap11
              have hap13x10 := hT13.apart (c := 59) rfl hN13x10 (by intro e; have h1 := congrArg List.length e; simp only [List.length_append, List.length_cons, List.length_nil] at h1; omega) (by intro e; have h1 := congrArg List.length e; simp only [List.length_append, List.length_cons, List.length_nil] at h1; omega)
              clear ho13 hk13
              refine hK.out _ _ ?_ (fun hHeld => ?_)
              · exact ⟨(fiveC hH13).2.1, (fiveC hH13).2.2.1⟩
              clear hK K
              go_simp
              refine wpAnyH_ready (rs := [11]) (by kernel_rfl) (by simp) ?_
              refine AllReadyH.cons rfl (fun K hK => ?_) AllReadyH.nil
              refine step_t rfl (.tmp 82) (.tmp 83) rfl rfl hT13 rfl rfl (lies1 (c := 59) rfl hN13x10) (by simp only [List.length_append, List.length_cons, List.length_nil]; omega) ?_
              intro v14 w14 hT14 ho14 hk14
              have hH14 := ho14 _ _ _ _ hH13 (by decide)
              clear ho14 hk14
              refine hK.out _ _ ?_ (fun hHeld => ?_)
              · exact ⟨(fiveC hH14).2.1, (fiveC hH14).2.2.1⟩
              clear hK K
              go_simp
              refine wpAnyH_take (i := 12) (v := ?_) rfl (by kernel_rfl) (by kernel_rfl) (by kernel_rfl) (fun _ _ _ h => h) (Or.inl ⟨by kernel_rfl, ?_⟩) (by assumption) ?_
              rotate_left
              · (intro w' hSw; (try dsimp only at hSw); go_simp); try with_reducible rfl
              go_simp
              refine wpAnyH_done (by kernel_rfl) ?_ _
              obtain ⟨va99, vn99, vc99, rfl⟩ := hT14.shape
              go_wp2_with (first | (go_at_call 16; ((with_reducible refine (hgap _).mono ?_); rintro e w' ⟨rfl, rfl⟩)) | (at_builtin; refine app_s rfl (.tmp 85) (.tmp 87) rfl rfl hT14 rfl (by simp only [List.length_append, List.length_cons, List.length_nil]; omega) ?_; intro v' w99q hT99 ho99; obtain ⟨va99, vn99, vc99, rfl⟩ := hT99.shape))
              have HT99 := Lib.hid hT99
              clear hT99
              go_roundg (ps.length - (q + 1))
              case measure => have h1 := HK.out; have h2 := HLT.out; omega
              case rel => exact ⟨q + 1, HLT.out, rfl, by go_num, by rw [HE.out]; exact HT99.out⟩
            refine AllReadyH.cons rfl (fun K hK => ?_) AllReadyH.nil
            go_simp
            have hN15 := alloc_new w2 (.cells #[.int .u8 59] 5)
            have hT15 := hT2.alloc (.cells #[.int .u8 59] 5)
            have hH15 := keepA (.cells #[.int .u8 59] 5) hH2
            have hap15 := hT2.fresh
            generalize w2.heap.size = b15 at hN15 hap15 ⊢
            generalize w2.alloc (.cells #[.int .u8 59] 5) = w15 at hN15 hT15 hH15 ⊢
            refine hK.out _ _ ?_ (fun hHeld => ?_)
            · exact ⟨(fiveC hH15).2.1, (fiveC hH15).2.2.1⟩
            clear hK K
            go_simp
            refine wpAnyH_ready (rs := [5]) (by kernel_rfl) (by simp) ?_
            refine AllReadyH.cons rfl (fun K hK => ?_) AllReadyH.nil
            refine step_t rfl (.tmp 75) (.tmp 77) rfl rfl hT15 rfl rfl (HNL.out.below (HNL.out.lt hn0) hT15.bel) (by simp only [List.length_append, List.length_cons, List.length_nil]; omega) ?_
            intro v16 w16 hT16 ho16 hk16
            have hH16 := ho16 _ _ _ _ hH15 (by decide)
            have hN16x10 := hk16 _ _ hN15 hap15
            have hap16x10 := hT16.apart (c := 59) rfl hN16x10 (by intro e; have h1 := congrArg List.length e; simp only [List.length_append, List.length_cons, List.length_nil] at h1; omega) (by intro e; have h1 := congrArg List.length e; simp only [List.length_append, List.length_cons, List.length_nil] at h1; omega)
            clear ho16 hk16
            refine hK.out _ _ ?_ (fun hHeld => ?_)
            · exact ⟨(fiveC hH16).2.1, (fiveC hH16).2.2.1⟩
            clear hK K
            go_simp
            refine wpAnyH_ready (rs := [8]) (by kernel_rfl) (by simp) ?_
            refine AllReadyH.cons rfl (fun K hK => ?_) AllReadyH.nil
            go_simp
            refine (words_any w16 _ p.words (HWM.out.below hT16.bel) HWX.out HW8.out).mono ?_
            rintro e w17 ⟨wv17, rfl, hTw17⟩
            obtain ⟨gb17, wcap17, rfl, _, hlt17, hwc17, hL17⟩ := owned_lies hTw17.own HWP.out
            have hbel17 := hTw17.bel
            have hT17 := hT16.below hbel17
            have hH17 := keepB hbel17 hH16
            have hN17x10 := keepB hbel17 hN16x10
            clear hTw17 hbel17
            refine hK.out _ _ ?_ (fun hHeld => ?_)
            · exact ⟨(fiveC hH17).2.1, (fiveC hH17).2.2.1⟩
            clear hK K
            go_simp
            refine wpAnyH_ready (rs := [9]) (by kernel_rfl) (by simp) ?_
            refine AllReadyH.cons rfl (fun K hK => ?_) AllReadyH.nil
            refine step_t rfl (.tmp 78) (.tmp 81) rfl rfl hT17 rfl rfl hL17 (by simp only [List.length_append, List.length_cons, List.length_nil]; omega) ?_
            intro v18 w18 hT18 ho18 hk18
            have hH18 := ho18 _ _ _ _ hH17 (by decide)
            have hN18x10 := hk18 _ _ hN17x10 hap16x10
            have hap18x10 := hT18.apart (c := 59) rfl hN18x10 (by intro e; have h1 := congrArg List.length e; simp only [List.length_append, List.length_cons, List.length_nil] at h1; omega) (by intro e; have h1 := congrArg List.length e; simp only [List.length_append, List.length_cons, List.length_nil] at h1; omega)
            clear ho18 hk18
            refine hK.out _ _ ?_ (fun hHeld => ?_)
            · exact ⟨(fiveC hH18).2.1, (fiveC hH18).2.2.1⟩
            clear hK K
            go_simp
            refine wpAnyH_ready (rs := [11]) (by kernel_rfl) (by simp) ?_
            refine AllReadyH.cons rfl (fun K hK => ?_) AllReadyH.nil
            refine step_t rfl (.tmp 82) (.tmp 83) rfl rfl hT18 rfl rfl (lies1 (c := 59) rfl hN18x10) (by simp only [List.length_append, List.length_cons, List.length_nil]; omega) ?_
            intro v19 w19 hT19 ho19 hk19
            have hH19 := ho19 _ _ _ _ hH18 (by decide)
            clear ho19 hk19
            refine hK.out _ _ ?_ (fun hHeld => ?_)
            · exact ⟨(fiveC hH19).2.1, (fiveC hH19).2.2.1⟩
            clear hK K
            go_simp
            refine wpAnyH_take (i := 12) (v := ?_) rfl (by kernel_rfl) (by kernel_rfl) (by kernel_rfl) (fun _ _ _ h => h) (Or.inl ⟨by kernel_rfl, ?_⟩) (by assumption) ?_
            rotate_left
            · (intro w' hSw; (try dsimp only at hSw); go_simp); try with_reducible rfl
            go_simp
            refine wpAnyH_done (by kernel_rfl) ?_ _
            obtain ⟨va99, vn99, vc99, rfl⟩ := hT19.shape
            go_wp2_with (first | (go_at_call 16; ((with_reducible refine (hgap _).mono ?_); rintro e w' ⟨rfl, rfl⟩)) | (at_builtin; refine app_s rfl (.tmp 85) (.tmp 87) rfl rfl hT19 rfl (by simp only [List.length_append, List.length_cons, List.length_nil]; omega) ?_; intro v' w99q hT99 ho99; obtain ⟨va99, vn99, vc99, rfl⟩ := hT99.shape))
            have HT99 := Lib.hid hT99
            clear hT99
            go_roundg (ps.length - (q + 1))
            case measure => have h1 := HK.out; have h2 := HLT.out; omega
            case rel => exact ⟨q + 1, HLT.out, rfl, by go_num, by rw [HE.out]; exact HT99.out⟩
          refine AllReadyH.cons rfl (fun K hK => ?_) AllReadyH.nil
          go_simp
          have hN20 := alloc_new w1 (.cells #[.int .u8 59] 5)
          have hT20 := hT1.alloc (.cells #[.int .u8 59] 5)
          have hH20 := keepA (.cells #[.int .u8 59] 5) hH1
          have hN20x1 := keepA (.cells #[.int .u8 59] 5) hN1
          have hap20 := hT1.fresh
          generalize w1.heap.size = b20 at hN20 hap20 ⊢
          generalize w1.alloc (.cells #[.int .u8 59] 5) = w20 at hN20 hT20 hH20 hN20x1 ⊢
          refine hK.out _ _ ?_ (fun hHeld => ?_)
          · exact ⟨(fiveC hH20).2.1, (fiveC hH20).2.2.1⟩
          clear hK K
          go_simp
          refine wpAnyH_ready (rs := [2]) (by kernel_rfl) (by simp) ?_
          refine AllReadyH.cons rfl (fun K hK => ?_) AllReadyH.nil
          refine step_t rfl (.tmp 73) (.tmp 74) rfl rfl hT20 rfl rfl (lies1 (c := 64) rfl hN20x1) (by simp only [List.length_cons, List.length_nil]; omega) ?_
          intro v21 w21 hT21 ho21 hk21
          have hH21 := ho21 _ _ _ _ hH20 (by decide)
          have hN21x10 := hk21 _ _ hN20 hap20
          have hap21x10 := hT21.apart (c := 59) rfl hN21x10 (by intro e; have h1 := congrArg List.length e; simp only [List.length_append, List.length_cons, List.length_nil] at h1; omega) (by intro e; have h2 := congrArg List.getLast? e; simp at h2)
          clear ho21 hk21
          refine hK.out _ _ ?_ (fun hHeld => ?_)
          · exact ⟨(fiveC hH21).2.1, (fiveC hH21).2.2.1⟩
          clear hK K
          go_simp
          refine wpAnyH_ready (rs := [5]) (by kernel_rfl) (by simp) ?_
          refine AllReadyH.cons rfl (fun K hK => ?_) AllReadyH.nil
          refine step_t rfl (.tmp 75) (.tmp 77) rfl rfl hT21 rfl rfl (HNL.out.below (HNL.out.lt hn0) hT21.bel) (by simp only [List.length_append, List.length_cons, List.length_nil]; omega) ?_
          intro v22 w22 hT22 ho22 hk22
          have hH22 := ho22 _ _ _ _ hH21 (by decide)
          have hN22x10 := hk22 _ _ hN21x10 hap21x10
          have hap22x10 := hT22.apart (c := 59) rfl hN22x10 (by intro e; have h1 := congrArg List.length e; simp only [List.length_append, List.length_cons, List.length_nil] at h1; omega) (by intro e; have h1 := congrArg List.length e; simp only [List.length_append, List.length_cons, List.length_nil] at h1; omega)
          clear ho22 hk22
          refine hK.out _ _ ?_ (fun hHeld => ?_)
          · exact ⟨(fiveC hH22).2.1, (fiveC hH22).2.2.1⟩
          clear hK K
          go_simp
          refine wpAnyH_ready (rs := [8]) (by kernel_rfl) (by simp) ?_
          refine AllReadyH.cons rfl (fun K hK => ?_) AllReadyH.nil
          go_simp
          refine (words_any w22 _ p.words (HWM.out.below hT22.bel) HWX.out HW8.out).mono ?_
          rintro e w23 ⟨wv23, rfl, hTw23⟩
          obtain ⟨gb23, wcap23, rfl, _, hlt23, hwc23, hL23⟩ := owned_lies hTw23.own HWP.out
          have hbel23 := hTw23.bel
          have hT23 := hT22.below hbel23
          have hH23 := keepB hbel23 hH22
          have hN23x10 := keepB hbel23 hN22x10
          clear hTw23 hbel23
          refine hK.out _ _ ?_ (fun hHeld => ?_)
          · exact ⟨(fiveC hH23).2.1, (fiveC hH23).2.2.1⟩
          clear hK K
          go_simp
          refine wpAnyH_ready (rs := [9]) (by kernel_rfl) (by simp) ?_
          refine AllReadyH.cons rfl (fun K hK => ?_) AllReadyH.nil
          refine step_t rfl (.tmp 78) (.tmp 81) rfl rfl hT23 rfl rfl hL23 (by simp only [List.length_append, List.length_cons, List.length_nil]; omega) ?_
          intro v24 w24 hT24 ho24 hk24
          have hH24 := ho24 _ _ _ _ hH23 (by decide)
          have hN24x10 := hk24 _ _ hN23x10 hap22x10
          have hap24x10 := hT24.apart (c := 59) rfl hN24x10 (by intro e; have h1 := congrArg List.length e; simp only [List.length_append, List.length_cons, List.length_nil] at h1; omega) (by intro e; have h1 := congrArg List.length e; simp only [List.length_append, List.length_cons, List.length_nil] at h1; omega)
          clear ho24 hk24
          refine hK.out _ _ ?_ (fun hHeld => ?_)
          · exact ⟨(fiveC hH24).2.1, (fiveC hH24).2.2.1⟩
          clear hK K
          go_simp
          refine wpAnyH_ready (rs := [11]) (by kernel_rfl) (by simp) ?_
          refine AllReadyH.cons rfl (fun K hK => ?_) AllReadyH.nil
          refine step_t rfl (.tmp 82) (.tmp 83) rfl rfl hT24 rfl rfl (lies1 (c := 59) rfl hN24x10) (by simp only [List.length_append, List.length_cons, List.length_nil]; omega) ?_
          intro v25 w25 hT25 ho25 hk25
          have hH25 := ho25 _ _ _ _ hH24 (by decide)
          clear ho25 hk25
          refine hK.out _ _ ?_ (fun hHeld => ?_)
          · exact ⟨(fiveC hH25).2.1, (fiveC hH25).2.2.1⟩
          clear hK K
          go_simp
          refine wpAnyH_take (i := 12) (v := ?_) rfl (by kernel_rfl) (by kernel_rfl) (by kernel_rfl) (fun _ _ _ h => h) (Or.inl ⟨by kernel_rfl, ?_⟩) (by assumption) ?_
          rotate_left
          · (intro w' hSw; (try dsimp only at hSw); go_simp); try with_reducible rfl
          go_simp
          refine wpAnyH_done (by kernel_rfl) ?_ _
          obtain ⟨va99, vn99, vc99, rfl⟩ := hT25.shape
          go_wp2_with (first | (go_at_call 16; ((with_reducible refine (hgap _).mono ?_); rintro e w' ⟨rfl, rfl⟩)) | (at_builtin; refine app_s rfl (.tmp 85) (.tmp 87) rfl rfl hT25 rfl (by simp only [List.length_append, List.length_cons, List.length_nil]; omega) ?_; intro v' w99q hT99 ho99; obtain ⟨va99, vn99, vc99, rfl⟩ := hT99.shape))
          have HT99 := Lib.hid hT99
          clear hT99
          go_roundg (ps.length - (q + 1))
          case measure => have h1 := HK.out; have h2 := HLT.out; omega
          case rel => exact ⟨q + 1, HLT.out, rfl, by go_num, by rw [HE.out]; exact HT99.out⟩
        refine AllReadyH.cons rfl (fun K hK => ?_) AllReadyH.nil
        go_simp
        have hN26 := alloc_new wd (.cells #[.int .u8 59] 5)
        have hT26 := hTd.alloc (.cells #[.int .u8 59] 5)
        have hH26 := keepA (.cells #[.int .u8 59] 5) hHd
        have hap26 := hTd.fresh
        generalize wd.heap.size = b26 at hN26 hap26 ⊢
        generalize wd.alloc (.cells #[.int .u8 59] 5) = w26 at hN26 hT26 hH26 ⊢
        refine hK.out _ _ ?_ (fun hHeld => ?_)
        · exact ⟨(fiveC hH26).2.1, (fiveC hH26).2.2.1⟩
        clear hK K
        go_simp
        refine wpAnyH_ready (rs := [1]) (by kernel_rfl) (by simp) ?_
        refine AllReadyH.cons rfl (fun K hK => ?_) AllReadyH.nil
        go_simp
        have hN27 := alloc_new w26 (.cells #[.int .u8 64] 5)
        have hT27 := hT26.alloc (.cells #[.int .u8 64] 5)
        have hH27 := keepA (.cells #[.int .u8 64] 5) hH26
        have hN27x10 := keepA (.cells #[.int .u8 64] 5) hN26
        have hap27 := hT26.fresh
        generalize w26.heap.size = b27 at hN27 hap27 ⊢
        generalize w26.alloc (.cells #[.int .u8 64] 5) = w27 at hN27 hT27 hH27 hN27x10 ⊢
        refine hK.out _ _ ?_ (fun hHeld => ?_)
        · exact ⟨(fiveC hH27).2.1, (fiveC hH27).2.2.1⟩
        clear hK K
        go_simp
        refine wpAnyH_ready (rs := [2]) (by kernel_rfl) (by simp) ?_
        refine AllReadyH.cons rfl (fun K hK => ?_) AllReadyH.nil
        refine step_t rfl (.tmp 73) (.tmp 74) rfl rfl hT27 rfl rfl (lies1 (c := 64) rfl hN27) (by simp only [List.length_cons, List.length_nil]; omega) ?_
        intro v28 w28 hT28 ho28 hk28
        have hH28 := ho28 _ _ _ _ hH27 (by decide)
        have hN28x10 := hk28 _ _ hN27x10 hap26
        have hap28x10 := hT28.apart (c := 59) rfl hN28x10 (by intro e; have h1 := congrArg List.length e; simp only [List.length_append, List.length_cons, List.length_nil] at h1; omega) (by intro e; have h2 := congrArg List.getLast? e; simp at h2)
        clear ho28 hk28
        refine hK.out _ _ ?_ (fun hHeld => ?_)
        · exact ⟨(fiveC hH28).2.1, (fiveC hH28).2.2.1⟩
        clear hK K
        go_simp
        refine wpAnyH_ready (rs := [5]) (by kernel_rfl) (by simp) ?_
        refine AllReadyH.cons rfl (fun K hK => ?_) AllReadyH.nil
        refine step_t rfl (.tmp 75) (.tmp 77) rfl rfl hT28 rfl rfl (HNL.out.below (HNL.out.lt hn0) hT28.bel) (by simp only [List.length_append, List.length_cons, List.length_nil]; omega) ?_
        intro v29 w29 hT29 ho29 hk29
        have hH29 := ho29 _ _ _ _ hH28 (by decide)
        have hN29x10 := hk29 _ _ hN28x10 hap28x10
        have hap29x10 := hT29.apart (c := 59) rfl hN29x10 (by intro e; have h1 := congrArg List.length e; simp only [List.length_append, List.length_cons, List.length_nil] at h1; omega) (by intro e; have h1 := congrArg List.length e; simp only [List.length_append, List.length_cons, List.length_nil] at h1; omega)
        clear ho29 hk29
        refine hK.out _ _ ?_ (fun hHeld => ?_)
        · exact ⟨(fiveC hH29).2.1, (fiveC hH29).2.2.1⟩
        clear hK K
        go_simp
        refine wpAnyH_ready (rs := [8]) (by kernel_rfl) (by simp) ?_
        refine AllReadyH.cons rfl (fun K hK => ?_) AllReadyH.nil
        go_simp
        refine (words_any w29 _ p.words (HWM.out.below hT29.bel) HWX.out HW8.out).mono ?_
        rintro e w30 ⟨wv30, rfl, hTw30⟩
        obtain ⟨gb30, wcap30, rfl, _, hlt30, hwc30, hL30⟩ := owned_lies hTw30.own HWP.out
        have hbel30 := hTw30.bel
        have hT30 := hT29.below hbel30
        have hH30 := keepB hbel30 hH29
        have hN30x10 := keepB hbel30 hN29x10
        clear hTw30 hbel30
        refine hK.out _ _ ?_ (fun hHeld => ?_)
        · exact ⟨(fiveC hH30).2.1, (fiveC hH30).2.2.1⟩
        clear hK K
        go_simp
        refine wpAnyH_ready (rs := [9]) (by kernel_rfl) (by simp) ?_
        refine AllReadyH.cons rfl (fun K hK => ?_) AllReadyH.nil
        refine step_t rfl (.tmp 78) (.tmp 81) rfl rfl hT30 rfl rfl hL30 (by simp only [List.length_append, List.length_cons, List.length_nil]; omega) ?_
        intro v31 w31 hT31 ho31 hk31
        have hH31 := ho31 _ _ _ _ hH30 (by decide)
        have hN31x10 := hk31 _ _ hN30x10 hap29x10
        have hap31x10 := hT31.apart (c := 59) rfl hN31x10 (by intro e; have h1 := congrArg List.length e; simp only [List.length_append, List.length_cons, List.length_nil] at h1; omega) (by intro e; have h1 := congrArg List.length e; simp only [List.length_append, List.length_cons, List.length_nil] at h1; omega)
        clear ho31 hk31
        refine hK.out _ _ ?_ (fun hHeld => ?_)
        · exact ⟨(fiveC hH31).2.1, (fiveC hH31).2.2.1⟩
        clear hK K
        go_simp
        refine wpAnyH_ready (rs := [11]) (by kernel_rfl) (by simp) ?_
        refine AllReadyH.cons rfl (fun K hK => ?_) AllReadyH.nil
        refine step_t rfl (.tmp 82) (.tmp 83) rfl rfl hT31 rfl rfl (lies1 (c := 59) rfl hN31x10) (by simp only [List.length_append, List.length_cons, List.length_nil]; omega) ?_
        intro v32 w32 hT32 ho32 hk32
        have hH32 := ho32 _ _ _ _ hH31 (by decide)
        clear ho32 hk32
        refine hK.out _ _ ?_ (fun hHeld => ?_)
        · exact ⟨(fiveC hH32).2.1, (fiveC hH32).2.2.1⟩
        clear hK K
        go_simp
        refine wpAnyH_take (i := 12) (v := ?_) rfl (by kernel_rfl) (by kernel_rfl) (by kernel_rfl) (fun _ _ _ h => h) (Or.inl ⟨by kernel_rfl, ?_⟩) (by assumption) ?_
        rotate_left
        · (intro w' hSw; (try dsimp only at hSw); go_simp); try with_reducible rfl
        go_simp
        refine wpAnyH_done (by kernel_rfl) ?_ _
        obtain ⟨va99, vn99, vc99, rfl⟩ := hT32.shape
        go_wp2_with (first | (go_at_call 16; ((with_reducible refine (hgap _).mono ?_); rintro e w' ⟨rfl, rfl⟩)) | (at_builtin; refine app_s rfl (.tmp 85) (.tmp 87) rfl rfl hT32 rfl (by simp only [List.length_append, List.length_cons, List.length_nil]; omega) ?_; intro v' w99q hT99 ho99; obtain ⟨va99, vn99, vc99, rfl⟩ := hT99.shape))
        have HT99 := Lib.hid hT99
        clear hT99
        go_roundg (ps.length - (q + 1))
        case measure => have h1 := HK.out; have h2 := HLT.out; omega
        case rel => exact ⟨q + 1, HLT.out, rfl, by go_num, by rw [HE.out]; exact HT99.out⟩
      · have hk : (kk.toList == [98, 108, 111, 99, 107]) = true := by rw [HKK.out]; exact hR.k
        have hk0 : (kk.toList == [114, 117, 108, 101]) = false := by rw [beq_iff_eq.1 hk]; decide
        have hk1 : (kk.toList == [97, 116]) = false := by rw [beq_iff_eq.1 hk]; decide
        have HWP := Lib.hid (show 0 < (wordsL p.words).length from Nat.lt_of_lt_of_le (by omega) (wordsL_pos hR.ws HVT.out))
        have HIH := Lib.hid (HI.out d' hdd)
        have HPO := Lib.hid hP
        have hbl : (ptext st d' p.parts).length ≤ 133100000 := ptext_len hP (by omega)
        have HE := Lib.hid (show ptext st d (ps.take (q + 1)) = T ++ [64] ++ p.name ++ wordsL p.words ++ gapL st ++ [123] ++ gapL st ++ ptext st d' p.parts ++ gapL st ++ [125] ++ gapL st from by
          rw [HTK.out]; subst hdd; simp only [headT, bodyT, kinds.2.1 hR.k, cond_false, List.append_assoc])
        clear hR hP hdd
        go_upto_region 6 with fail
        go_cut [5] (fun v5 wx => Tx w.heap.size w wx v5 (T ++ [64] ++ p.name ++ wordsL p.words ++ gapL st ++ [123]) ∧ wx.heap[tg]? = some (.cells #[.string kk, .slice (some ⟨nb, noff, none⟩) p.name.length nc0, .slice wa p.words.length wc0, .slice da p.decls.length dc0, .slice pa p.parts.length pc0] 38 (0, 0)))
        case first =>
          have hTd := hT.below (w' := wc.drew) ⟨rfl, rfl, rfl, Nat.le_refl _, fun _ _ => rfl⟩
          have hHd := keepB (w' := wc.drew) ⟨rfl, rfl, rfl, Nat.le_refl _, fun _ _ => rfl⟩ htg
          clear hT htg c0
          refine wp_region_held_drew (S := fun w' => w'.cell? ⟨tg, 1, none⟩ = some (.slice (some ⟨nb, noff, none⟩) p.name.length nc0) ∧ w'.cell? ⟨tg, 2, none⟩ = some (.slice wa p.words.length wc0)) (by kernel_rfl) ?_ (fun hHeld => ?_)
          · exact ⟨(fiveC hHd).2.1, (fiveC hHd).2.2.1⟩
          generalize World.drew wc = wd at hTd hHd hHeld ⊢
          refine wpAnyH_take (i := 0) (v := ?_) rfl (by kernel_rfl) (by kernel_rfl) (by kernel_rfl) (fun _ _ _ h => h) (Or.inl ⟨by kernel_rfl, ?_⟩) (by assumption) ?_
          rotate_left
          · (intro w' hSw; (try dsimp only at hSw); go_simp); try with_reducible rfl
          go_simp
          refine wpAnyH_take (i := 3) (v := ?_) rfl (by kernel_rfl) (by kernel_rfl) (by kernel_rfl) (fun _ _ _ h => h) (Or.inl ⟨by kernel_rfl, ?_⟩) (by assumption) ?_
          rotate_left
          · (intro w' hSw; (try dsimp only at hSw); go_simp); try with_reducible rfl
          go_simp
          refine wpAnyH_take (i := 4) (v := ?_) rfl (by kernel_rfl) (by kernel_rfl) (by kernel_rfl) (fun _ _ _ h => h) (Or.inl ⟨by kernel_rfl, ?_⟩) (by assumption) ?_
          rotate_left
          · (intro w' hSw; (try dsimp only at hSw); go_simp); try with_reducible rfl
          go_simp
          refine wpAnyH_take (i := 6) (v := ?_) rfl (by kernel_rfl) (by kernel_rfl) (by kernel_rfl) (fun _ _ _ h => h) (Or.inl ⟨by kernel_rfl, ?_⟩) (by assumption) ?_
          rotate_left
          · (intro w' hSw; (try dsimp only at hSw); go_simp); try with_reducible rfl
          go_simp
          refine wpAnyH_take (i := 7) (v := ?_) rfl (by kernel_rfl) (by kernel_rfl) (by kernel_rfl) (fun _ _ _ h => h) (Or.inl ⟨by kernel_rfl, ?_⟩) (by assumption) ?_
          rotate_left
          · (intro w' hSw; (try dsimp only at hSw); go_simp); try with_reducible rfl
          go_simp
          refine wpAnyH_take (i := 10) (v := ?_) rfl (by kernel_rfl) (by kernel_rfl) (by kernel_rfl) (fun _ _ _ h => h) (Or.inl ⟨by kernel_rfl, ?_⟩) (by assumption) ?_
          rotate_left
          · (intro w' hSw; (try dsimp only at hSw); go_simp); try with_reducible rfl
          go_simp
          refine wpAnyH_ready (rs := [1, 13]) (by kernel_rfl) (by simp) ?_
          refine AllReadyH.cons rfl (fun K hK => ?_) ?_
          · go_simp
            have hN33 := alloc_new wd (.cells #[.int .u8 64] 5)
            have hT33 := hTd.alloc (.cells #[.int .u8 64] 5)
            have hH33 := keepA (.cells #[.int .u8 64] 5) hHd
            have hap33 := hTd.fresh
            generalize wd.heap.size = b33 at hN33 hap33 ⊢
            generalize wd.alloc (.cells #[.int .u8 64] 5) = w33 at hN33 hT33 hH33 ⊢
            refine hK.out _ _ ?_ (fun hHeld => ?_)
            · exact ⟨(fiveC hH33).2.1, (fiveC hH33).2.2.1⟩
            clear hK K
            go_simp
            refine wpAnyH_ready (rs := [2, 13]) (by kernel_rfl) (by simp) ?_
            refine AllReadyH.cons rfl (fun K hK => ?_) ?_
            · refine step_t rfl (.tmp 17) (.tmp 18) rfl rfl hT33 rfl rfl (lies1 (c := 64) rfl hN33) (by simp only [List.length_cons, List.length_nil]; omega) ?_
              intro v34 w34 hT34 ho34 hk34
              have hH34 := ho34 _ _ _ _ hH33 (by decide)
              clear ho34 hk34
              refine hK.out _ _ ?_ (fun hHeld => ?_)
              · exact ⟨(fiveC hH34).2.1, (fiveC hH34).2.2.1⟩
              clear hK K
              go_simp
              refine wpAnyH_ready (rs := [5, 13]) (by kernel_rfl) (by simp) ?_
              refine AllReadyH.cons rfl (fun K hK => ?_) ?_
              · refine step_t rfl (.tmp 19) (.tmp 21) rfl rfl hT34 rfl rfl (HNL.out.below (HNL.out.lt hn0) hT34.bel) (by simp only [List.length_append, List.length_cons, List.length_nil]; omega) ?_
                intro v35 w35 hT35 ho35 hk35
                have hH35 := ho35 _ _ _ _ hH34 (by decide)
                clear ho35 hk35
                refine hK.out _ _ ?_ (fun hHeld => ?_)
                · exact ⟨(fiveC hH35).2.1, (fiveC hH35).2.2.1⟩
                clear hK K
                go_simp
                refine wpAnyH_ready (rs := [8, 13]) (by kernel_rfl) (by simp) ?_
                refine AllReadyH.cons rfl (fun K hK => ?_) ?_
                · go_simp
                  refine (words_any w35 _ p.words (HWM.out.below hT35.bel) HWX.out HW8.out).mono ?_
                  rintro e w36 ⟨wv36, rfl, hTw36⟩
                  obtain ⟨gb36, wcap36, rfl, _, hlt36, hwc36, hL36⟩ := owned_lies hTw36.own HWP.out
                  have hbel36 := hTw36.bel
                  have hT36 := hT35.below hbel36
                  have hH36 := keepB hbel36 hH35
                  clear hTw36 hbel36
                  refine hK.out _ _ ?_ (fun hHeld => ?_)
                  · exact ⟨(fiveC hH36).2.1, (fiveC hH36).2.2.1⟩
                  clear hK K
                  go_simp
                  refine wpAnyH_ready (rs := [9, 13]) (by kernel_rfl) (by simp) ?_
                  refine AllReadyH.cons rfl (fun K hK => ?_) ?_
                  · refine step_t rfl (.tmp 22) (.tmp 25) rfl rfl hT36 rfl rfl hL36 (by simp only [List.length_append, List.length_cons, List.length_nil]; omega) ?_
                    intro v37 w37 hT37 ho37 hk37
                    have hH37 := ho37 _ _ _ _ hH36 (by decide)
                    clear ho37 hk37
                    refine hK.out _ _ ?_ (fun hHeld => ?_)
                    · exact ⟨(fiveC hH37).2.1, (fiveC hH37).2.2.1⟩
                    clear hK K
                    go_simp
                    refine wpAnyH_ready (rs := [11, 13]) (by kernel_rfl) (by simp) ?_
                    refine AllReadyH.cons rfl (fun K hK => ?_) ?_
                    · go_simp
                      refine (hgap _).mono ?_
                      rintro e w38 ⟨rfl, hww⟩
                      subst hww
                      refine hK.out _ _ ?_ (fun hHeld => ?_)
                      · exact ⟨(fiveC hH37).2.1, (fiveC hH37).2.2.1⟩
                      clear hK K
                      go_simp
                      refine wpAnyH_ready (rs := [12, 13]) (by kernel_rfl) (by simp) ?_
                      refine AllReadyH.cons rfl (fun K hK => ?_) ?_
                      · refine step_s rfl (.tmp 26) (.tmp 28) rfl rfl hT37 rfl (by simp only [List.length_append, List.length_cons, List.length_nil]; omega) ?_
                        intro v39 w39 hT39 ho39 hk39
                        have hH39 := ho39 _ _ _ _ hH37 (by decide)
                        clear ho39 hk39
                        refine hK.out _ _ ?_ (fun hHeld => ?_)
                        · exact ⟨(fiveC hH39).2.1, (fiveC hH39).2.2.1⟩
                        clear hK K
                        go_simp
                        refine wpAnyH_ready (rs := [13]) (by kernel_rfl) (by simp) ?_
                        refine AllReadyH.cons rfl (fun K hK => ?_) AllReadyH.nil
                        go_simp
                        have hN40 := alloc_new w39 (.cells #[.int .u8 123] 5)
                        have hT40 := hT39.alloc (.cells #[.int .u8 123] 5)
                        have hH40 := keepA (.cells #[.int .u8 123] 5) hH39
                        have hap40 := hT39.fresh
                        generalize w39.heap.size = b40 at hN40 hap40 ⊢
                        generalize w39.alloc (.cells #[.int .u8 123] 5) = w40 at hN40 hT40 hH40 ⊢
                        refine hK.out _ _ ?_ (fun hHeld => ?_)
                        · exact ⟨(fiveC hH40).2.1, (fiveC hH40).2.2.1⟩
                        clear hK K
                        go_simp
                        refine wpAnyH_ready (rs := [14]) (by kernel_rfl) (by simp) ?_
                        refine AllReadyH.cons rfl (fun K hK => ?_) AllReadyH.nil
                        refine step_t rfl (.tmp 29) (.tmp 30) rfl rfl hT40 rfl rfl (lies1 (c := 123) rfl hN40) (by simp only [List.length_append, List.length_cons, List.length_nil]; omega) ?_
                        intro v41 w41 hT41 ho41 hk41
                        have hH41 := ho41 _ _ _ _ hH40 (by decide)
                        clear ho41 hk41
                        refine hK.out _ _ ?_ (fun hHeld => ?_)
                        · exact ⟨(fiveC hH41).2.1, (fiveC hH41).2.2.1⟩
                        clear hK K
                        go_simp
                        refine wpAnyH_take (i := 15) (v := ?_) rfl (by kernel_rfl) (by kernel_rfl) (by kernel_rfl) (fun _ _ _ h => h) (Or.inl ⟨by kernel_rfl, ?_⟩) (by assumption) ?_
                        rotate_left
                        · (intro w' hSw; (try dsimp only at hSw); go_simp); try with_reducible rfl
                        go_simp
                        refine wpAnyH_done (by kernel_rfl) ?_ _
                        go_wp2_with fail
                        go_meet
                        exact ⟨hT41, hH41⟩
                      refine AllReadyH.cons rfl (fun K hK => ?_) AllReadyH.nil
                      go_simp
                      have hN42 := alloc_new w37 (.cells #[.int .u8 123] 5)
                      have hT42 := hT37.alloc (.cells #[.int .u8 123] 5)
                      have hH42 := keepA (.cells #[.int .u8 123] 5) hH37
                      have hap42 := hT37.fresh
                      generalize w37.heap.size = b42 at hN42 hap42 ⊢
                      generalize w37.alloc (.cells #[.int .u8 123] 5) = w42 at hN42 hT42 hH42 ⊢
                      refine hK.out _ _ ?_ (fun hHeld => ?_)
                      · exact ⟨(fiveC hH42).2.1, (fiveC hH42).2.2.1⟩
                      clear hK K
                      go_simp
                      refine wpAnyH_ready (rs := [12]) (by kernel_rfl) (by simp) ?_
                      refine AllReadyH.cons rfl (fun K hK => ?_) AllReadyH.nil
                      refine step_s rfl (.tmp 26) (.tmp 28) rfl rfl hT42 rfl (by simp only [List.length_append, List.length_cons, List.length_nil]; omega) ?_
                      intro v43 w43 hT43 ho43 hk43
                      have hH43 := ho43 _ _ _ _ hH42 (by decide)
                      have hN43x13 := hk43 _ _ hN42 hap42
                      have hap43x13 := hT43.apart (c := 123) rfl hN43x13 (by intro e; have h1 := congrArg List.length e; simp only [List.length_append, List.length_cons, List.length_nil] at h1; omega) (by intro e; have h1 := congrArg List.length e; simp only [List.length_append, List.length_cons, List.length_nil] at h1; omega)
                      clear ho43 hk43
                      refine hK.out _ _ ?_ (fun hHeld => ?_)
                      · exact ⟨(fiveC hH43).2.1, (fiveC hH43).2.2.1⟩
                      clear hK K
                      go_simp
                      refine wpAnyH_ready (rs := [14]) (by kernel_rfl) (by simp) ?_
                      refine AllReadyH.cons rfl (fun K hK => ?_) AllReadyH.nil
                      refine step_t rfl (.tmp 29) (.tmp 30) rfl rfl hT43 rfl rfl (lies1 (c := 123) rfl hN43x13) (by simp only [List.length_append, List.length_cons, List.length_nil]; omega) ?_
                      intro v44 w44 hT44 ho44 hk44
                      have hH44 := ho44 _ _ _ _ hH43 (by decide)
                      clear ho44 hk44
                      refine hK.out _ _ ?_ (fun hHeld => ?_)
                      · exact ⟨(fiveC hH44).2.1, (fiveC hH44).2.2.1⟩
                      clear hK K
                      go_simp
                      refine wpAnyH_take (i := 15) (v := ?_) rfl (by kernel_rfl) (by kernel_rfl) (by kernel_rfl) (fun _ _ _ h => h) (Or.inl ⟨by kernel_rfl, ?_⟩) (by assumption) ?_
                      rotate_left
                      · (intro w' hSw; (try dsimp only at hSw); go_simp); try with_reducible rfl
                      go_simp
                      refine wpAnyH_done (by kernel_rfl) ?_ _
                      go_wp2_with fail
                      go_meet
                      exact ⟨hT44, hH44⟩
                    refine AllReadyH.cons rfl (fun K hK => ?_) AllReadyH.nil
                    go_simp
                    have hN45 := alloc_new w37 (.cells #[.int .u8 123] 5)
                    have hT45 := hT37.alloc (.cells #[.int .u8 123] 5)
                    have hH45 := keepA (.cells #[.int .u8 123] 5) hH37
                    have hap45 := hT37.fresh
                    generalize w37.heap.size = b45 at hN45 hap45 ⊢
                    generalize w37.alloc (.cells #[.int .u8 123] 5) = w45 at hN45 hT45 hH45 ⊢
                    refine hK.out _ _ ?_ (fun hHeld => ?_)
                    · exact ⟨(fiveC hH45).2.1, (fiveC hH45).2.2.1⟩
                    clear hK K
                    go_simp
                    refine wpAnyH_ready (rs := [11]) (by kernel_rfl) (by simp) ?_
                    refine AllReadyH.cons rfl (fun K hK => ?_) AllReadyH.nil
                    go_simp
                    refine (hgap _).mono ?_
                    rintro e w46 ⟨rfl, hww⟩
                    subst hww
                    refine hK.out _ _ ?_ (fun hHeld => ?_)
                    · exact ⟨(fiveC hH45).2.1, (fiveC hH45).2.2.1⟩
                    clear hK K
                    go_simp
                    refine wpAnyH_ready (rs := [12]) (by kernel_rfl) (by simp) ?_
                    refine AllReadyH.cons rfl (fun K hK => ?_) AllReadyH.nil
                    refine step_s rfl (.tmp 26) (.tmp 28) rfl rfl hT45 rfl (by simp only [List.length_append, List.length_cons, List.length_nil]; omega) ?_
                    intro v47 w47 hT47 ho47 hk47
                    have hH47 := ho47 _ _ _ _ hH45 (by decide)
                    have hN47x13 := hk47 _ _ hN45 hap45
                    have hap47x13 := hT47.apart (c := 123) rfl hN47x13 (by intro e; have h1 := congrArg List.length e; simp only [List.length_append, List.length_cons, List.length_nil] at h1; omega) (by intro e; have h1 := congrArg List.length e; simp only [List.length_append, List.length_cons, List.length_nil] at h1; omega)
                    clear ho47 hk47
                    refine hK.out _ _ ?_ (fun hHeld => ?_)
                    · exact ⟨(fiveC hH47).2.1, (fiveC hH47).2.2.1⟩
                    clear hK K
                    go_simp
                    refine wpAnyH_ready (rs := [14]) (by kernel_rfl) (by simp) ?_
                    refine AllReadyH.cons rfl (fun K hK => ?_) AllReadyH.nil
                    refine step_t rfl (.tmp 29) (.tmp 30) rfl rfl hT47 rfl rfl (lies1 (c := 123) rfl hN47x13) (by simp only [List.length_append, List.length_cons, List.length_nil]; omega) ?_
                    intro v48 w48 hT48 ho48 hk48
                    have hH48 := ho48 _ _ _ _ hH47 (by decide)
                    clear ho48 hk48
                    refine hK.out _ _ ?_ (fun hHeld => ?_)
                    · exact ⟨(fiveC hH48).2.1, (fiveC hH48).2.2.1⟩
                    clear hK K
                    go_simp
                    refine wpAnyH_take (i := 15) (v := ?_) rfl (by kernel_rfl) (by kernel_rfl) (by kernel_rfl) (fun _ _ _ h => h) (Or.inl ⟨by kernel_rfl, ?_⟩) (by assumption) ?_
                    rotate_left
                    · (intro w' hSw; (try dsimp only at hSw); go_simp); try with_reducible rfl
                    go_simp
                    refine wpAnyH_done (by kernel_rfl) ?_ _
                    go_wp2_with fail
                    go_meet
                    exact ⟨hT48, hH48⟩
                  refine AllReadyH.cons rfl (fun K hK => ?_) AllReadyH.nil
                  go_simp
                  have hN49 := alloc_new w36 (.cells #[.int .u8 123] 5)
                  have hT49 := hT36.alloc (.cells #[.int .u8 123] 5)
                  have hH49 := keepA (.cells #[.int .u8 123] 5) hH36
                  have hL49 := keepL ((Below.refl _ _).alloc (Nat.le_refl _) (.cells #[.int .u8 123] 5)) hL36 hlt36
                  have hlt49 : gb36 < (w36.alloc (.cells #[.int .u8 123] 5)).heap.size := Nat.lt_of_lt_of_le hlt36 (((Below.refl w36.heap.size w36).alloc (Nat.le_refl _) (.cells #[.int .u8 123] 5)).size)
                  have hap49 := hT36.fresh
                  generalize w36.heap.size = b49 at hN49 hap49 ⊢
                  generalize w36.alloc (.cells #[.int .u8 123] 5) = w49 at hN49 hT49 hH49 hL49 hlt49 ⊢
                  refine hK.out _ _ ?_ (fun hHeld => ?_)
                  · exact ⟨(fiveC hH49).2.1, (fiveC hH49).2.2.1⟩
                  clear hK K
                  go_simp
                  refine wpAnyH_ready (rs := [9]) (by kernel_rfl) (by simp) ?_
                  refine AllReadyH.cons rfl (fun K hK => ?_) AllReadyH.nil
                  refine step_t rfl (.tmp 22) (.tmp 25) rfl rfl hT49 rfl rfl hL49 (by simp only [List.length_append, List.length_cons, List.length_nil]; omega) ?_
                  intro v50 w50 hT50 ho50 hk50
                  have hH50 := ho50 _ _ _ _ hH49 (by decide)
                  have hN50x13 := hk50 _ _ hN49 hap49
                  have hap50x13 := hT50.apart (c := 123) rfl hN50x13 (by intro e; have h1 := congrArg List.length e; simp only [List.length_append, List.length_cons, List.length_nil] at h1; omega) (by intro e; have h1 := congrArg List.length e; simp only [List.length_append, List.length_cons, List.length_nil] at h1; omega)
                  clear ho50 hk50
                  refine hK.out _ _ ?_ (fun hHeld => ?_)
                  · exact ⟨(fiveC hH50).2.1, (fiveC hH50).2.2.1⟩
                  clear hK K
                  go_simp
                  refine wpAnyH_ready (rs := [11]) (by kernel_rfl) (by simp) ?_
                  refine AllReadyH.cons rfl (fun K hK => ?_) AllReadyH.nil
                  go_simp
                  refine (hgap _).mono ?_
                  rintro e w51 ⟨rfl, hww⟩
                  subst hww
                  refine hK.out _ _ ?_ (fun hHeld => ?_)
                  · exact ⟨(fiveC hH50).2.1, (fiveC hH50).2.2.1⟩
                  clear hK K
                  go_simp
                  refine wpAnyH_ready (rs := [12]) (by kernel_rfl) (by simp) ?_
                  refine AllReadyH.cons rfl (fun K hK => ?_) AllReadyH.nil
                  refine step_s rfl (.tmp 26) (.tmp 28) rfl rfl hT50 rfl (by simp only [List.length_append, List.length_cons, List.length_nil]; omega) ?_
                  intro v52 w52 hT52 ho52 hk52
                  have hH52 := ho52 _ _ _ _ hH50 (by decide)
                  have hN52x13 := hk52 _ _ hN50x13 hap50x13
                  have hap52x13 := hT52.apart (c := 123) rfl hN52x13 (by intro e; have h1 := congrArg List.length e; simp only [List.length_append, List.length_cons, List.length_nil] at h1; omega) (by intro e; have h1 := congrArg List.length e; simp only [List.length_append, List.length_cons, List.length_nil] at h1; omega)
                  clear ho52 hk52
                  refine hK.out _ _ ?_ (fun hHeld => ?_)
                  · exact ⟨(fiveC hH52).2.1, (fiveC hH52).2.2.1⟩
                  clear hK K
                  go_simp
                  refine wpAnyH_ready (rs := [14]) (by kernel_rfl) (by simp) ?_
                  refine AllReadyH.cons rfl (fun K hK => ?_) AllReadyH.nil
                  refine step_t rfl (.tmp 29) (.tmp 30) rfl rfl hT52 rfl rfl (lies1 (c := 123) rfl hN52x13) (by simp only [List.length_append, List.length_cons, List.length_nil]; omega) ?_
                  intro v53 w53 hT53 ho53 hk53
                  have hH53 := ho53 _ _ _ _ hH52 (by decide)
                  clear ho53 hk53
                  refine hK.out _ _ ?_ (fun hHeld => ?_)
                  · exact ⟨(fiveC hH53).2.1, (fiveC hH53).2.2.1⟩
                  clear hK K
                  go_simp
                  refine wpAnyH_take (i := 15) (v := ?_) rfl (by kernel_rfl) (by kernel_rfl) (by kernel_rfl) (fun _ _ _ h => h) (Or.inl ⟨by kernel_rfl, ?_⟩) (by assumption) ?_
                  rotate_left
                  · (intro w' hSw; (try dsimp only at hSw); go_simp); try with_reducible rfl
                  go_simp
                  refine wpAnyH_done (by kernel_rfl) ?_ _
                  go_wp2_with fail
                  go_meet
                  exact ⟨hT53, hH53⟩
                refine AllReadyH.cons rfl (fun K hK => ?_) AllReadyH.nil
                go_simp
                have hN54 := alloc_new w35 (.cells #[.int .u8 123] 5)
                have hT54 := hT35.alloc (.cells #[.int .u8 123] 5)
                have hH54 := keepA (.cells #[.int .u8 123] 5) hH35
                have hap54 := hT35.fresh
                generalize w35.heap.size = b54 at hN54 hap54 ⊢
                generalize w35.alloc (.cells #[.int .u8 123] 5) = w54 at hN54 hT54 hH54 ⊢
                refine hK.out _ _ ?_ (fun hHeld => ?_)
                · exact ⟨(fiveC hH54).2.1, (fiveC hH54).2.2.1⟩
                clear hK K
                go_simp
                refine wpAnyH_ready (rs := [8]) (by kernel_rfl) (by simp) ?_
                refine AllReadyH.cons rfl (fun K hK => ?_) AllReadyH.nil
                go_simp
                refine (words_any w54 _ p.words (HWM.out.below hT54.bel) HWX.out HW8.out).mono ?_
                rintro e w55 ⟨wv55, rfl, hTw55⟩
                obtain ⟨gb55, wcap55, rfl, _, hlt55, hwc55, hL55⟩ := owned_lies hTw55.own HWP.out
                have hbel55 := hTw55.bel
                have hT55 := hT54.below hbel55
                have hH55 := keepB hbel55 hH54
                have hN55x13 := keepB hbel55 hN54
                clear hTw55 hbel55
                refine hK.out _ _ ?_ (fun hHeld => ?_)
                · exact ⟨(fiveC hH55).2.1, (fiveC hH55).2.2.1⟩
                clear hK K
                go_simp
                refine wpAnyH_ready (rs := [9]) (by kernel_rfl) (by simp) ?_
                refine AllReadyH.cons rfl (fun K hK => ?_) AllReadyH.nil
                refine step_t rfl (.tmp 22) (.tmp 25) rfl rfl hT55 rfl rfl hL55 (by simp only [List.length_append, List.length_cons, List.length_nil]; omega) ?_
                intro v56 w56 hT56 ho56 hk56
                have hH56 := ho56 _ _ _ _ hH55 (by decide)
                have hN56x13 := hk56 _ _ hN55x13 hap54
                have hap56x13 := hT56.apart (c := 123) rfl hN56x13 (by intro e; have h1 := congrArg List.length e; simp only [List.length_append, List.length_cons, List.length_nil] at h1; omega) (by intro e; have h1 := congrArg List.length e; simp only [List.length_append, List.length_cons, List.length_nil] at h1; omega)
                clear ho56 hk56
                refine hK.out _ _ ?_ (fun hHeld => ?_)
                · exact ⟨(fiveC hH56).2.1, (fiveC hH56).2.2.1⟩
                clear hK K
                go_simp
                refine wpAnyH_ready (rs := [11]) (by kernel_rfl) (by simp) ?_
                refine AllReadyH.cons rfl (fun K hK => ?_) AllReadyH.nil
                go_simp
                refine (hgap _).mono ?_
                rintro e w57 ⟨rfl, hww⟩
                subst hww
                refine hK.out _ _ ?_ (fun hHeld => ?_)
                · exact ⟨(fiveC hH56).2.1, (fiveC hH56).2.2.1⟩
                clear hK K
                go_simp
                refine wpAnyH_ready (rs := [12]) (by kernel_rfl) (by simp) ?_
                refine AllReadyH.cons rfl (fun K hK => ?_) AllReadyH.nil
                refine step_s rfl (.tmp 26) (.tmp 28) rfl rfl hT56 rfl (by simp only [List.length_append, List.length_cons, List.length_nil]; omega) ?_
                intro v58 w58 hT58 ho58 hk58
                have hH58 := ho58 _ _ _ _ hH56 (by decide)
                have hN58x13 := hk58 _ _ hN56x13 hap56x13
                have hap58x13 := hT58.apart (c := 123) rfl hN58x13 (by intro e; have h1 := congrArg List.length e; simp only [List.length_append, List.length_cons, List.length_nil] at h1; omega) (by intro e; have h1 := congrArg List.length e; simp only [List.length_append, List.length_cons, List.length_nil] at h1; omega)
                clear ho58 hk58
                refine hK.out _ _ ?_ (fun hHeld => ?_)
                · exact ⟨(fiveC hH58).2.1, (fiveC hH58).2.2.1⟩
                clear hK K
                go_simp
                refine wpAnyH_ready (rs := [14]) (by kernel_rfl) (by simp) ?_
                refine AllReadyH.cons rfl (fun K hK => ?_) AllReadyH.nil
                refine step_t rfl (.tmp 29) (.tmp 30) rfl rfl hT58 rfl rfl (lies1 (c := 123) rfl hN58x13) (by simp only [List.length_append, List.length_cons, List.length_nil]; omega) ?_
                intro v59 w59 hT59 ho59 hk59
                have hH59 := ho59 _ _ _ _ hH58 (by decide)
                clear ho59 hk59
                refine hK.out _ _ ?_ (fun hHeld => ?_)
                · exact ⟨(fiveC hH59).2.1, (fiveC hH59).2.2.1⟩
                clear hK K
                go_simp
                refine wpAnyH_take (i := 15) (v := ?_) rfl (by kernel_rfl) (by kernel_rfl) (by kernel_rfl) (fun _ _ _ h => h) (Or.inl ⟨by kernel_rfl, ?_⟩) (by assumption) ?_
                rotate_left
                · (intro w' hSw; (try dsimp only at hSw); go_simp); try with_reducible rfl
                go_simp
                refine wpAnyH_done (by kernel_rfl) ?_ _
                go_wp2_with fail
                go_meet
                exact ⟨hT59, hH59⟩
              refine AllReadyH.cons rfl (fun K hK => ?_) AllReadyH.nil
              go_simp
              have hN60 := alloc_new w34 (.cells #[.int .u8 123] 5)
              have hT60 := hT34.alloc (.cells #[.int .u8 123] 5)
              have hH60 := keepA (.cells #[.int .u8 123] 5) hH34
              have hap60 := hT34.fresh
              generalize w34.heap.size = b60 at hN60 hap60 ⊢
              generalize w34.alloc (.cells #[.int .u8 123] 5) = w60 at hN60 hT60 hH60 ⊢
              refine hK.out _ _ ?_ (fun hHeld => ?_)
              · exact ⟨(fiveC hH60).2.1, (fiveC hH60).2.2.1⟩
              clear hK K
              go_simp
              refine wpAnyH_ready (rs := [5]) (by kernel_rfl) (by simp) ?_
              refine AllReadyH.cons rfl (fun K hK => ?_) AllReadyH.nil
              refine step_t rfl (.tmp 19) (.tmp 21) rfl rfl hT60 rfl rfl (HNL.out.below (HNL.out.lt hn0) hT60.bel) (by simp only [List.length_append, List.length_cons, List.length_nil]; omega) ?_
              intro v61 w61 hT61 ho61 hk61
              have hH61 := ho61 _ _ _ _ hH60 (by decide)
              have hN61x13 := hk61 _ _ hN60 hap60
              have hap61x13 := hT61.apart (c := 123) rfl hN61x13 (by intro e; have h1 := congrArg List.length e; simp only [List.length_append, List.length_cons, List.length_nil] at h1; omega) (by intro e; have h1 := congrArg List.length e; simp only [List.length_append, List.length_cons, List.length_nil] at h1; omega)
              clear ho61 hk61
              refine hK.out _ _ ?_ (fun hHeld => ?_)
              · exact ⟨(fiveC hH61).2.1, (fiveC hH61).2.2.1⟩
              clear hK K
              go_simp
              refine wpAnyH_ready (rs := [8]) (by kernel_rfl) (by simp) ?_
              refine AllReadyH.cons rfl (fun K hK => ?_) AllReadyH.nil
              go_simp
              refine (words_any w61 _ p.words (HWM.out.below hT61.bel) HWX.out HW8.out).mono ?_
              rintro e w62 ⟨wv62, rfl, hTw62⟩
              obtain ⟨gb62, wcap62, rfl, _, hlt62, hwc62, hL62⟩ := owned_lies hTw62.own HWP.out
              have hbel62 := hTw62.bel
              have hT62 := hT61.below hbel62
              have hH62 := keepB hbel62 hH61
              have hN62x13 := keepB hbel62 hN61x13
              clear hTw62 hbel62
              refine hK.out _ _ ?_ (fun hHeld => ?_)
              · exact ⟨(fiveC hH62).2.1, (fiveC hH62).2.2.1⟩
              clear hK K
              go_simp
              refine wpAnyH_ready (rs := [9]) (by kernel_rfl) (by simp) ?_
              refine AllReadyH.cons rfl (fun K hK => ?_) AllReadyH.nil
              refine step_t rfl (.tmp 22) (.tmp 25) rfl rfl hT62 rfl rfl hL62 (by simp only [List.length_append, List.length_cons, List.length_nil]; omega) ?_
              intro v63 w63 hT63 ho63 hk63
              have hH63 := ho63 _ _ _ _ hH62 (by decide)
              have hN63x13 := hk63 _ _ hN62x13 hap61x13
              have hap63x13 := hT63.apart (c := 123) rfl hN63x13 (by intro e; have h1 := congrArg List.length e; simp only [List.length_append, List.length_cons, List.length_nil] at h1; omega) (by intro e; have h1 := congrArg List.length e; simp only [List.length_append, List.length_cons, List.length_nil] at h1; omega)
              clear ho63 hk63
              refine hK.out _ _ ?_ (fun hHeld => ?_)
              · exact ⟨(fiveC hH63).2.1, (fiveC hH63).2.2.1⟩
              clear hK K
              go_simp
              refine wpAnyH_ready (rs := [11]) (by kernel_rfl) (by simp) ?_
              refine AllReadyH.cons rfl (fun K hK => ?_) AllReadyH.nil
              go_simp
              refine (hgap _).mono ?_
              rintro e w64 ⟨rfl, hww⟩
              subst hww
              refine hK.out _ _ ?_ (fun hHeld => ?_)
              · exact ⟨(fiveC hH63).2.1, (fiveC hH63).2.2.1⟩
              clear hK K
              go_simp
              refine wpAnyH_ready (rs := [12]) (by kernel_rfl) (by simp) ?_
              refine AllReadyH.cons rfl (fun K hK => ?_) AllReadyH.nil
              refine step_s rfl (.tmp 26) (.tmp 28) rfl rfl hT63 rfl (by simp only [List.length_append, List.length_cons, List.length_nil]; omega) ?_
              intro v65 w65 hT65 ho65 hk65
              have hH65 := ho65 _ _ _ _ hH63 (by decide)
              have hN65x13 := hk65 _ _ hN63x13 hap63x13
              have hap65x13 := hT65.apart (c := 123) rfl hN65x13 (by intro e; have h1 := congrArg List.length e; simp only [List.length_append, List.length_cons, List.length_nil] at h1; omega) (by intro e; have h1 := congrArg List.length e; simp only [List.length_append, List.length_cons, List.length_nil] at h1; omega)
              clear ho65 hk65
              refine hK.out _ _ ?_ (fun hHeld => ?_)
              · exact ⟨(fiveC hH65).2.1, (fiveC hH65).2.2.1⟩
              clear hK K
              go_simp
              refine wpAnyH_ready (rs := [14]) (by kernel_rfl) (by simp) ?_
              refine AllReadyH.cons rfl (fun K hK => ?_) AllReadyH.nil
              refine step_t rfl (.tmp 29) (.tmp 30) rfl rfl hT65 rfl rfl (lies1 (c := 123) rfl hN65x13) (by simp only [List.length_append, List.length_cons, List.length_nil]; omega) ?_
              intro v66 w66 hT66 ho66 hk66
              have hH66 := ho66 _ _ _ _ hH65 (by decide)
              clear ho66 hk66
              refine hK.out _ _ ?_ (fun hHeld => ?_)
              · exact ⟨(fiveC hH66).2.1, (fiveC hH66).2.2.1⟩
              clear hK K
              go_simp
              refine wpAnyH_take (i := 15) (v := ?_) rfl (by kernel_rfl) (by kernel_rfl) (by kernel_rfl) (fun _ _ _ h => h) (Or.inl ⟨by kernel_rfl, ?_⟩) (by assumption) ?_
              rotate_left
              · (intro w' hSw; (try dsimp only at hSw); go_simp); try with_reducible rfl
              go_simp
              refine wpAnyH_done (by kernel_rfl) ?_ _
              go_wp2_with fail
              go_meet
              exact ⟨hT66, hH66⟩
            refine AllReadyH.cons rfl (fun K hK => ?_) AllReadyH.nil
            go_simp
            have hN67 := alloc_new w33 (.cells #[.int .u8 123] 5)
            have hT67 := hT33.alloc (.cells #[.int .u8 123] 5)
            have hH67 := keepA (.cells #[.int .u8 123] 5) hH33
            have hN67x1 := keepA (.cells #[.int .u8 123] 5) hN33
            have hap67 := hT33.fresh
            generalize w33.heap.size = b67 at hN67 hap67 ⊢
            generalize w33.alloc (.cells #[.int .u8 123] 5) = w67 at hN67 hT67 hH67 hN67x1 ⊢
            refine hK.out _ _ ?_ (fun hHeld => ?_)
            · exact ⟨(fiveC hH67).2.1, (fiveC hH67).2.2.1⟩
            clear hK K
            go_simp
            refine wpAnyH_ready (rs := [2]) (by kernel_rfl) (by simp) ?_
            refine AllReadyH.cons rfl (fun K hK => ?_) AllReadyH.nil
            refine step_t rfl (.tmp 17) (.tmp 18) rfl rfl hT67 rfl rfl (lies1 (c := 64) rfl hN67x1) (by simp only [List.length_cons, List.length_nil]; omega) ?_
            intro v68 w68 hT68 ho68 hk68
            have hH68 := ho68 _ _ _ _ hH67 (by decide)
            have hN68x13 := hk68 _ _ hN67 hap67
            have hap68x13 := hT68.apart (c := 123) rfl hN68x13 (by intro e; have h1 := congrArg List.length e; simp only [List.length_append, List.length_cons, List.length_nil] at h1; omega) (by intro e; have h2 := congrArg List.getLast? e; simp at h2)
            clear ho68 hk68
            refine hK.out _ _ ?_ (fun hHeld => ?_)
            · exact ⟨(fiveC hH68).2.1, (fiveC hH68).2.2.1⟩
            clear hK K
            go_simp
            refine wpAnyH_ready (rs := [5]) (by kernel_rfl) (by simp) ?_
            refine AllReadyH.cons rfl (fun K hK => ?_) AllReadyH.nil
            refine step_t rfl (.tmp 19) (.tmp 21) rfl rfl hT68 rfl rfl (HNL.out.below (HNL.out.lt hn0) hT68.bel) (by simp only [List.length_append, List.length_cons, List.length_nil]; omega) ?_
            intro v69 w69 hT69 ho69 hk69
            have hH69 := ho69 _ _ _ _ hH68 (by decide)
            have hN69x13 := hk69 _ _ hN68x13 hap68x13
            have hap69x13 := hT69.apart (c := 123) rfl hN69x13 (by intro e; have h1 := congrArg List.length e; simp only [List.length_append, List.length_cons, List.length_nil] at h1; omega) (by intro e; have h1 := congrArg List.length e; simp only [List.length_append, List.length_cons, List.length_nil] at h1; omega)
            clear ho69 hk69
            refine hK.out _ _ ?_ (fun hHeld => ?_)
            · exact ⟨(fiveC hH69).2.1, (fiveC hH69).2.2.1⟩
            clear hK K
            go_simp
            refine wpAnyH_ready (rs := [8]) (by kernel_rfl) (by simp) ?_
            refine AllReadyH.cons rfl (fun K hK => ?_) AllReadyH.nil
            go_simp
            refine (words_any w69 _ p.words (HWM.out.below hT69.bel) HWX.out HW8.out).mono ?_
            rintro e w70 ⟨wv70, rfl, hTw70⟩
            obtain ⟨gb70, wcap70, rfl, _, hlt70, hwc70, hL70⟩ := owned_lies hTw70.own HWP.out
            have hbel70 := hTw70.bel
            have hT70 := hT69.below hbel70
            have hH70 := keepB hbel70 hH69
            have hN70x13 := keepB hbel70 hN69x13
            clear hTw70 hbel70
            refine hK.out _ _ ?_ (fun hHeld => ?_)
            · exact ⟨(fiveC hH70).2.1, (fiveC hH70).2.2.1⟩
            clear hK K
            go_simp
            refine wpAnyH_ready (rs := [9]) (by kernel_rfl) (by simp) ?_
            refine AllReadyH.cons rfl (fun K hK => ?_) AllReadyH.nil
            refine step_t rfl (.tmp 22) (.tmp 25) rfl rfl hT70 rfl rfl hL70 (by simp only [List.length_append, List.length_cons, List.length_nil]; omega) ?_
            intro v71 w71 hT71 ho71 hk71
            have hH71 := ho71 _ _ _ _ hH70 (by decide)
            have hN71x13 := hk71 _ _ hN70x13 hap69x13
            have hap71x13 := hT71.apart (c := 123) rfl hN71x13 (by intro e; have h1 := congrArg List.length e; simp only [List.length_append, List.length_cons, List.length_nil] at h1; omega) (by intro e; have h1 := congrArg List.length e; simp only [List.length_append, List.length_cons, List.length_nil] at h1; omega)
            clear ho71 hk71
            refine hK.out _ _ ?_ (fun hHeld => ?_)
            · exact ⟨(fiveC hH71).2.1, (fiveC hH71).2.2.1⟩
            clear hK K
            go_simp
            refine wpAnyH_ready (rs := [11]) (by kernel_rfl) (by simp) ?_
            refine AllReadyH.cons rfl (fun K hK => ?_) AllReadyH.nil
            go_simp
            refine (hgap _).mono ?_
            rintro e w72 ⟨rfl, hww⟩
            subst hww
            refine hK.out _ _ ?_ (fun hHeld => ?_)
            · exact ⟨(fiveC hH71).2.1, (fiveC hH71).2.2.1⟩
            clear hK K
            go_simp
            refine wpAnyH_ready (rs := [12]) (by kernel_rfl) (by simp) ?_
            refine AllReadyH.cons rfl (fun K hK => ?_) AllReadyH.nil
            refine step_s rfl (.tmp 26) (.tmp 28) rfl rfl hT71 rfl (by simp only [List.length_append, List.length_cons, List.length_nil]; omega) ?_
            intro v73 w73 hT73 ho73 hk73
            have hH73 := ho73 _ _ _ _ hH71 (by decide)
            have hN73x13 := hk73 _ _ hN71x13 hap71x13
            have hap73x13 := hT73.apart (c := 123) rfl hN73x13 (by intro e; have h1 := congrArg List.length e; simp only [List.length_append, List.length_cons, List.length_nil] at h1; omega) (by intro e; have h1 := congrArg List.length e; simp only [List.length_append, List.length_cons, List.length_nil] at h1; omega)
            clear ho73 hk73
            refine hK.out _ _ ?_ (fun hHeld => ?_)
            · exact ⟨(fiveC hH73).2.1, (fiveC hH73).2.2.1⟩
            clear hK K
            go_simp
            refine wpAnyH_ready (rs := [14]) (by kernel_rfl) (by simp) ?_
            refine AllReadyH.cons rfl (fun K hK => ?_) AllReadyH.nil
            refine step_t rfl (.tmp 29) (.tmp 30) rfl rfl hT73 rfl rfl (lies1 (c := 123) rfl hN73x13) (by simp only [List.length_append, List.length_cons, List.length_nil]; omega) ?_
            intro v74 w74 hT74 ho74 hk74
            have hH74 := ho74 _ _ _ _ hH73 (by decide)
            clear ho74 hk74
            refine hK.out _ _ ?_ (fun hHeld => ?_)
            · exact ⟨(fiveC hH74).2.1, (fiveC hH74).2.2.1⟩
            clear hK K
            go_simp
            refine wpAnyH_take (i := 15) (v := ?_) rfl (by kernel_rfl) (by kernel_rfl) (by kernel_rfl) (fun _ _ _ h => h) (Or.inl ⟨by kernel_rfl, ?_⟩) (by assumption) ?_
            rotate_left
            · (intro w' hSw; (try dsimp only at hSw); go_simp); try with_reducible rfl
            go_simp
            refine wpAnyH_done (by kernel_rfl) ?_ _
            go_wp2_with fail
            go_meet
            exact ⟨hT74, hH74⟩
          refine AllReadyH.cons rfl (fun K hK => ?_) AllReadyH.nil
          go_simp
          have hN75 := alloc_new wd (.cells #[.int .u8 123] 5)
          have hT75 := hTd.alloc (.cells #[.int .u8 123] 5)
          have hH75 := keepA (.cells #[.int .u8 123] 5) hHd
          have hap75 := hTd.fresh
          generalize wd.heap.size = b75 at hN75 hap75 ⊢
          generalize wd.alloc (.cells #[.int .u8 123] 5) = w75 at hN75 hT75 hH75 ⊢
          refine hK.out _ _ ?_ (fun hHeld => ?_)
          · exact ⟨(fiveC hH75).2.1, (fiveC hH75).2.2.1⟩
          clear hK K
          go_simp
          refine wpAnyH_ready (rs := [1]) (by kernel_rfl) (by simp) ?_
          refine AllReadyH.cons rfl (fun K hK => ?_) AllReadyH.nil
          go_simp
          have hN76 := alloc_new w75 (.cells #[.int .u8 64] 5)
          have hT76 := hT75.alloc (.cells #[.int .u8 64] 5)
          have hH76 := keepA (.cells #[.int .u8 64] 5) hH75
          have hN76x13 := keepA (.cells #[.int .u8 64] 5) hN75
          have hap76 := hT75.fresh
          generalize w75.heap.size = b76 at hN76 hap76 ⊢
          generalize w75.alloc (.cells #[.int .u8 64] 5) = w76 at hN76 hT76 hH76 hN76x13 ⊢
          refine hK.out _ _ ?_ (fun hHeld => ?_)
          · exact ⟨(fiveC hH76).2.1, (fiveC hH76).2.2.1⟩
          clear hK K
          go_simp
          refine wpAnyH_ready (rs := [2]) (by kernel_rfl) (by simp) ?_
          refine AllReadyH.cons rfl (fun K hK => ?_) AllReadyH.nil
          refine step_t rfl (.tmp 17) (.tmp 18) rfl rfl hT76 rfl rfl (lies1 (c := 64) rfl hN76) (by simp only [List.length_cons, List.length_nil]; omega) ?_
          intro v77 w77 hT77 ho77 hk77
          have hH77 := ho77 _ _ _ _ hH76 (by decide)
          have hN77x13 := hk77 _ _ hN76x13 hap75
          have hap77x13 := hT77.apart (c := 123) rfl hN77x13 (by intro e; have h1 := congrArg List.length e; simp only [List.length_append, List.length_cons, List.length_nil] at h1; omega) (by intro e; have h2 := congrArg List.getLast? e; simp at h2)
          clear ho77 hk77
          refine hK.out _ _ ?_ (fun hHeld => ?_)
          · exact ⟨(fiveC hH77).2.1, (fiveC hH77).2.2.1⟩
          clear hK K
          go_simp
          refine wpAnyH_ready (rs := [5]) (by kernel_rfl) (by simp) ?_
          refine AllReadyH.cons rfl (fun K hK => ?_) AllReadyH.nil
          refine step_t rfl (.tmp 19) (.tmp 21) rfl rfl hT77 rfl rfl (HNL.out.below (HNL.out.lt hn0) hT77.bel) (by simp only [List.length_append, List.length_cons, List.length_nil]; omega) ?_
          intro v78 w78 hT78 ho78 hk78
          have hH78 := ho78 _ _ _ _ hH77 (by decide)
          have hN78x13 := hk78 _ _ hN77x13 hap77x13
          have hap78x13 := hT78.apart (c := 123) rfl hN78x13 (by intro e; have h1 := congrArg List.length e; simp only [List.length_append, List.length_cons, List.length_nil] at h1; omega) (by intro e; have h1 := congrArg List.length e; simp only [List.length_append, List.length_cons, List.length_nil] at h1; omega)
          clear ho78 hk78
          refine hK.out _ _ ?_ (fun hHeld => ?_)
          · exact ⟨(fiveC hH78).2.1, (fiveC hH78).2.2.1⟩
          clear hK K
          go_simp
          refine wpAnyH_ready (rs := [8]) (by kernel_rfl) (by simp) ?_
          refine AllReadyH.cons rfl (fun K hK => ?_) AllReadyH.nil
          go_simp
          refine (words_any w78 _ p.words (HWM.out.below hT78.bel) HWX.out HW8.out).mono ?_
          rintro e w79 ⟨wv79, rfl, hTw79⟩
          obtain ⟨gb79, wcap79, rfl, _, hlt79, hwc79, hL79⟩ := owned_lies hTw79.own HWP.out
          have hbel79 := hTw79.bel
          have hT79 := hT78.below hbel79
          have hH79 := keepB hbel79 hH78
          have hN79x13 := keepB hbel79 hN78x13
          clear hTw79 hbel79
          refine hK.out _ _ ?_ (fun hHeld => ?_)
          · exact ⟨(fiveC hH79).2.1, (fiveC hH79).2.2.1⟩
          clear hK K
          go_simp
          refine wpAnyH_ready (rs := [9]) (by kernel_rfl) (by simp) ?_
          refine AllReadyH.cons rfl (fun K hK => ?_) AllReadyH.nil
          refine step_t rfl (.tmp 22) (.tmp 25) rfl rfl hT79 rfl rfl hL79 (by simp only [List.length_append, List.length_cons, List.length_nil]; omega) ?_
          intro v80 w80 hT80 ho80 hk80
          have hH80 := ho80 _ _ _ _ hH79 (by decide)
          have hN80x13 := hk80 _ _ hN79x13 hap78x13
          have hap80x13 := hT80.apart (c := 123) rfl hN80x13 (by intro e; have h1 := congrArg List.length e; simp only [List.length_append, List.length_cons, List.length_nil] at h1; omega) (by intro e; have h1 := congrArg List.length e; simp only [List.length_append, List.length_cons, List.length_nil] at h1; omega)
          clear ho80 hk80
          refine hK.out _ _ ?_ (fun hHeld => ?_)
          · exact ⟨(fiveC hH80).2.1, (fiveC hH80).2.2.1⟩
          clear hK K
          go_simp
          refine wpAnyH_ready (rs := [11]) (by kernel_rfl) (by simp) ?_
          refine AllReadyH.cons rfl (fun K hK => ?_) AllReadyH.nil
          go_simp
          refine (hgap _).mono ?_
          rintro e w81 ⟨rfl, hww⟩
          subst hww
          refine hK.out _ _ ?_ (fun hHeld => ?_)
          · exact ⟨(fiveC hH80).2.1, (fiveC hH80).2.2.1⟩
          clear hK K
          go_simp
          refine wpAnyH_ready (rs := [12]) (by kernel_rfl) (by simp) ?_
          refine AllReadyH.cons rfl (fun K hK => ?_) AllReadyH.nil
          refine step_s rfl (.tmp 26) (.tmp 28) rfl rfl hT80 rfl (by simp only [List.length_append, List.length_cons, List.length_nil]; omega) ?_
          intro v82 w82 hT82 ho82 hk82
          have hH82 := ho82 _ _ _ _ hH80 (by decide)
          have hN82x13 := hk82 _ _ hN80x13 hap80x13
          have hap82x13 := hT82.apart (c := 123) rfl hN82x13 (by intro e; have h1 := congrArg List.length e; simp only [List.length_append, List.length_cons, List.length_nil] at h1; omega) (by intro e; have h1 := congrArg List.length e; simp only [List.length_append, List.length_cons, List.length_nil] at h1; omega)
          clear ho82 hk82
          refine hK.out _ _ ?_ (fun hHeld => ?_)
          · exact ⟨(fiveC hH82).2.1, (fiveC hH82).2.2.1⟩
          clear hK K
          go_simp
          refine wpAnyH_ready (rs := [14]) (by kernel_rfl) (by simp) ?_
          refine AllReadyH.cons rfl (fun K hK => ?_) AllReadyH.nil
          refine step_t rfl (.tmp 29) (.tmp 30) rfl rfl hT82 rfl rfl (lies1 (c := 123) rfl hN82x13) (by simp only [List.length_append, List.length_cons, List.length_nil]; omega) ?_
          intro v83 w83 hT83 ho83 hk83
          have hH83 := ho83 _ _ _ _ hH82 (by decide)
          clear ho83 hk83
          refine hK.out _ _ ?_ (fun hHeld => ?_)
          · exact ⟨(fiveC hH83).2.1, (fiveC hH83).2.2.1⟩
          clear hK K
          go_simp
          refine wpAnyH_take (i := 15) (v := ?_) rfl (by kernel_rfl) (by kernel_rfl) (by kernel_rfl) (fun _ _ _ h => h) (Or.inl ⟨by kernel_rfl, ?_⟩) (by assumption) ?_
          rotate_left
          · (intro w' hSw; (try dsimp only at hSw); go_simp); try with_reducible rfl
          go_simp
          refine wpAnyH_done (by kernel_rfl) ?_ _
          go_wp2_with fail
          go_meet
          exact ⟨hT83, hH83⟩
        case rest =>
        clear hT htg c0
        obtain ⟨hT, htg⟩ := hcut
        obtain ⟨va, vn, vc, rfl⟩ := hT.shape
        obtain ⟨T2, hT2e⟩ : ∃ T2, T2 = T ++ [64] ++ p.name ++ wordsL p.words ++ gapL st ++ [123] := ⟨_, rfl⟩
        have hgl := gapL_len st
        have hT2a : 2 ≤ T2.length := by rw [hT2e]; simp only [List.length_append, List.length_cons, List.length_nil]; omega
        have hT2b : T2.length ≤ 133101000 := by rw [hT2e]; simp only [List.length_append, List.length_cons, List.length_nil]; omega
        rw [← hT2e] at hT HE
        clear hT2e
        go_upto_region 7 with fail
        have hTd := hT.below (w' := wc.drew) ⟨rfl, rfl, rfl, Nat.le_refl _, fun _ _ => rfl⟩
        have hHd := keepB (w' := wc.drew) ⟨rfl, rfl, rfl, Nat.le_refl _, fun _ _ => rfl⟩ htg
        clear hT htg
        refine wp_region_held_drew (S := fun w' => w'.cell? ⟨tg, 4, none⟩ = some (.slice pa p.parts.length pc0)) (by kernel_rfl) ?_ (fun hHeld => ?_)
        · exact (fiveC hHd).2.2.2.2
        generalize World.drew wc = wd at hTd hHd hHeld ⊢
        refine wpAnyH_take (i := 0) (v := ?_) rfl (by kernel_rfl) (by kernel_rfl) (by kernel_rfl) (fun _ _ _ h => h) (Or.inl ⟨by kernel_rfl, ?_⟩) (by assumption) ?_
        rotate_left
        · (intro w' hSw; (try dsimp only at hSw); go_simp); try with_reducible rfl
        go_simp
        refine wpAnyH_take (i := 1) (v := ?_) rfl (by kernel_rfl) (by kernel_rfl) (by kernel_rfl) (fun _ _ _ h => h) (Or.inl ⟨by kernel_rfl, ?_⟩) (by assumption) ?_
        rotate_left
        · (intro w' hSw; (try dsimp only at hSw); go_simp); try with_reducible rfl
        go_simp
        refine wpAnyH_take (i := 4) (v := ?_) rfl (by kernel_rfl) (by kernel_rfl) (by kernel_rfl) (fun _ _ _ h => h) (Or.inl ⟨by kernel_rfl, ?_⟩) (by assumption) ?_
        rotate_left
        · (intro w' hSw; (try dsimp only at hSw); go_simp); try with_reducible rfl
        go_simp
        refine wpAnyH_take (i := 5) (v := ?_) rfl (by kernel_rfl) (by kernel_rfl) (by kernel_rfl) (fun _ _ _ h => h) (Or.inl ⟨by kernel_rfl, ?_⟩) (by assumption) ?_
        rotate_left
        · (intro w' hSw; (try dsimp only at hSw); go_simp); try with_reducible rfl
        go_simp
        refine wpAnyH_take (i := 6) (v := ?_) rfl (by kernel_rfl) (by kernel_rfl) (by kernel_rfl) (fun _ _ _ h => h) (Or.inl ⟨by kernel_rfl, ?_⟩) (by assumption) ?_
        rotate_left
        · (intro w' hSw; (try dsimp only at hSw); go_simp); try with_reducible rfl
        go_simp
        refine wpAnyH_take (i := 9) (v := ?_) rfl (by kernel_rfl) (by kernel_rfl) (by kernel_rfl) (fun _ _ _ h => h) (Or.inl ⟨by kernel_rfl, ?_⟩) (by assumption) ?_
        rotate_left
        · (intro w' hSw; (try dsimp only at hSw); go_simp); try with_reducible rfl
        go_simp
        refine wpAnyH_ready (rs := [2, 12]) (by kernel_rfl) (by simp) ?_
        refine AllReadyH.cons rfl (fun K hK => ?_) ?_
        · go_simp
          refine (hgap _).mono ?_
          rintro e w84 ⟨rfl, hww⟩
          subst hww
          refine hK.out _ _ ?_ (fun hHeld => ?_)
          · exact (fiveC hHd).2.2.2.2
          clear hK K
          go_simp
          refine wpAnyH_ready (rs := [3, 12]) (by kernel_rfl) (by simp) ?_
          refine AllReadyH.cons rfl (fun K hK => ?_) ?_
          · refine step_s rfl (.tmp 32) (.tmp 34) rfl rfl hTd rfl (by omega) ?_
            intro v85 w85 hT85 ho85 hk85
            have hH85 := ho85 _ _ _ _ hHd (by decide)
            clear ho85 hk85
            refine hK.out _ _ ?_ (fun hHeld => ?_)
            · exact (fiveC hH85).2.2.2.2
            clear hK K
            go_simp
            refine wpAnyH_ready (rs := [7, 12]) (by kernel_rfl) (by simp) ?_
            refine AllReadyH.cons rfl (fun K hK => ?_) ?_
            · go_simp
              refine (HIH.out w85 _ p.parts (HPM.out.goOn hT85.bel) HPO.out).mono ?_
              rintro e w86 ⟨wv86, rfl, hTw86⟩
              obtain ⟨gb86, wcap86, rfl, hlt86, hwc86, hL86⟩ := hTw86.lies
              have hbel86 := hTw86.bel
              have hT86 := hT85.below hbel86
              have hH86 := keepB hbel86 hH85
              clear hTw86 hbel86
              refine hK.out _ _ ?_ (fun hHeld => ?_)
              · exact (fiveC hH86).2.2.2.2
              clear hK K
              go_simp
              refine wpAnyH_ready (rs := [8, 12]) (by kernel_rfl) (by simp) ?_
              refine AllReadyH.cons rfl (fun K hK => ?_) ?_
              · refine step_t rfl (.tmp 35) (.tmp 39) rfl rfl hT86 rfl rfl hL86 (by simp only [List.length_append]; omega) ?_
                intro v87 w87 hT87 ho87 hk87
                have hH87 := ho87 _ _ _ _ hH86 (by decide)
                clear ho87 hk87
                refine hK.out _ _ ?_ (fun hHeld => ?_)
                · exact (fiveC hH87).2.2.2.2
                clear hK K
                go_simp
                refine wpAnyH_ready (rs := [10, 12]) (by kernel_rfl) (by simp) ?_
                refine AllReadyH.cons rfl (fun K hK => ?_) ?_
                · go_simp
                  refine (hgap _).mono ?_
                  rintro e w88 ⟨rfl, hww⟩
                  subst hww
                  refine hK.out _ _ ?_ (fun hHeld => ?_)
                  · exact (fiveC hH87).2.2.2.2
                  clear hK K
                  go_simp
                  refine wpAnyH_ready (rs := [11, 12]) (by kernel_rfl) (by simp) ?_
                  refine AllReadyH.cons rfl (fun K hK => ?_) ?_
                  · refine step_s rfl (.tmp 40) (.tmp 42) rfl rfl hT87 rfl (by simp only [List.length_append]; omega) ?_
                    intro v89 w89 hT89 ho89 hk89
                    have hH89 := ho89 _ _ _ _ hH87 (by decide)
                    clear ho89 hk89
                    refine hK.out _ _ ?_ (fun hHeld => ?_)
                    · exact (fiveC hH89).2.2.2.2
                    clear hK K
                    go_simp
                    refine wpAnyH_ready (rs := [12]) (by kernel_rfl) (by simp) ?_
                    refine AllReadyH.cons rfl (fun K hK => ?_) AllReadyH.nil
                    go_simp
                    have hN90 := alloc_new w89 (.cells #[.int .u8 125] 5)
                    have hT90 := hT89.alloc (.cells #[.int .u8 125] 5)
                    have hH90 := keepA (.cells #[.int .u8 125] 5) hH89
                    have hap90 := hT89.fresh
                    generalize w89.heap.size = b90 at hN90 hap90 ⊢
                    generalize w89.alloc (.cells #[.int .u8 125] 5) = w90 at hN90 hT90 hH90 ⊢
                    refine hK.out _ _ ?_ (fun hHeld => ?_)
                    · exact (fiveC hH90).2.2.2.2
                    clear hK K
                    go_simp
                    refine wpAnyH_ready (rs := [13]) (by kernel_rfl) (by simp) ?_
                    refine AllReadyH.cons rfl (fun K hK => ?_) AllReadyH.nil
                    refine step_t rfl (.tmp 43) (.tmp 44) rfl rfl hT90 rfl rfl (lies1 (c := 125) rfl hN90) (by simp only [List.length_append, List.length_cons, List.length_nil]; omega) ?_
                    intro v91 w91 hT91 ho91 hk91
                    have hH91 := ho91 _ _ _ _ hH90 (by decide)
                    clear ho91 hk91
                    refine hK.out _ _ ?_ (fun hHeld => ?_)
                    · exact (fiveC hH91).2.2.2.2
                    clear hK K
                    go_simp
                    refine wpAnyH_take (i := 14) (v := ?_) rfl (by kernel_rfl) (by kernel_rfl) (by kernel_rfl) (fun _ _ _ h => h) (Or.inl ⟨by kernel_rfl, ?_⟩) (by assumption) ?_
                    rotate_left
                    · (intro w' hSw; (try dsimp only at hSw); go_simp); try with_reducible rfl
                    go_simp
                    refine wpAnyH_done (by kernel_rfl) ?_ _
                    obtain ⟨va99, vn99, vc99, rfl⟩ := hT91.shape
                    go_wp2_with (first | (go_at_call 16; ((with_reducible refine (hgap _).mono ?_); rintro e w' ⟨rfl, rfl⟩)) | (at_builtin; refine app_s rfl (.tmp 85) (.tmp 87) rfl rfl hT91 rfl (by simp only [List.length_append, List.length_cons, List.length_nil]; omega) ?_; intro v' w99q hT99 ho99; obtain ⟨va99, vn99, vc99, rfl⟩ := hT99.shape))
                    have HT99 := Lib.hid hT99
                    clear hT99
                    go_roundg (ps.length - (q + 1))
                    case measure => have h1 := HK.out; have h2 := HLT.out; omega
                    case rel => exact ⟨q + 1, HLT.out, rfl, by go_num, by rw [HE.out]; exact HT99.out⟩
                  refine AllReadyH.cons rfl (fun K hK => ?_) AllReadyH.nil
                  go_simp
                  have hN92 := alloc_new w87 (.cells #[.int .u8 125] 5)
                  have hT92 := hT87.alloc (.cells #[.int .u8 125] 5)
                  have hH92 := keepA (.cells #[.int .u8 125] 5) hH87
                  have hap92 := hT87.fresh
                  generalize w87.heap.size = b92 at hN92 hap92 ⊢
                  generalize w87.alloc (.cells #[.int .u8 125] 5) = w92 at hN92 hT92 hH92 ⊢
                  refine hK.out _ _ ?_ (fun hHeld => ?_)
                  · exact (fiveC hH92).2.2.2.2
                  clear hK K
                  go_simp
                  refine wpAnyH_ready (rs := [11]) (by kernel_rfl) (by simp) ?_
                  refine AllReadyH.cons rfl (fun K hK => ?_) AllReadyH.nil
                  refine step_s rfl (.tmp 40) (.tmp 42) rfl rfl hT92 rfl (by simp only [List.length_append]; omega) ?_
                  intro v93 w93 hT93 ho93 hk93
                  have hH93 := ho93 _ _ _ _ hH92 (by decide)
                  have hN93x12 := hk93 _ _ hN92 hap92
                  have hap93x12 := hT93.apart (c := 125) rfl hN93x12 (by intro e; have h1 := congrArg List.length e; simp only [List.length_append, List.length_nil] at h1; omega) (by intro e; have h1 := congrArg List.length e; simp only [List.length_append, List.length_cons, List.length_nil] at h1; omega)
                  clear ho93 hk93
                  refine hK.out _ _ ?_ (fun hHeld => ?_)
                  · exact (fiveC hH93).2.2.2.2
                  clear hK K
                  go_simp
                  refine wpAnyH_ready (rs := [13]) (by kernel_rfl) (by simp) ?_
                  refine AllReadyH.cons rfl (fun K hK => ?_) AllReadyH.nil
                  refine step_t rfl (.tmp 43) (.tmp 44) rfl rfl hT93 rfl rfl (lies1 (c := 125) rfl hN93x12) (by simp only [List.length_append, List.length_cons, List.length_nil]; omega) ?_
                  intro v94 w94 hT94 ho94 hk94
                  have hH94 := ho94 _ _ _ _ hH93 (by decide)
                  clear ho94 hk94
                  refine hK.out _ _ ?_ (fun hHeld => ?_)
                  · exact (fiveC hH94).2.2.2.2
                  clear hK K
                  go_simp
                  refine wpAnyH_take (i := 14) (v := ?_) rfl (by kernel_rfl) (by kernel_rfl) (by kernel_rfl) (fun _ _ _ h => h) (Or.inl ⟨by kernel_rfl, ?_⟩) (by assumption) ?_
                  rotate_left
                  · (intro w' hSw; (try dsimp only at hSw); go_simp); try with_reducible rfl
                  go_simp
                  refine wpAnyH_done (by kernel_rfl) ?_ _
                  obtain ⟨va99, vn99, vc99, rfl⟩ := hT94.shape
                  go_wp2_with (first | (go_at_call 16; ((with_reducible refine (hgap _).mono ?_); rintro e w' ⟨rfl, rfl⟩)) | (at_builtin; refine app_s rfl (.tmp 85) (.tmp 87) rfl rfl hT94 rfl (by simp only [List.length_append, List.length_cons, List.length_nil]; omega) ?_; intro v' w99q hT99 ho99; obtain ⟨va99, vn99, vc99, rfl⟩ := hT99.shape))
                  have HT99 := Lib.hid hT99
                  clear hT99
                  go_roundg (ps.length - (q + 1))
                  case measure => have h1 := HK.out; have h2 := HLT.out; omega
                  case rel => exact ⟨q + 1, HLT.out, rfl, by go_num, by rw [HE.out]; exact HT99.out⟩
                refine AllReadyH.cons rfl (fun K hK => ?_) AllReadyH.nil
                go_simp
                have hN95 := alloc_new w87 (.cells #[.int .u8 125] 5)
                have hT95 := hT87.alloc (.cells #[.int .u8 125] 5)
                have hH95 := keepA (.cells #[.int .u8 125] 5) hH87
                have hap95 := hT87.fresh
                generalize w87.heap.size = b95 at hN95 hap95 ⊢
                generalize w87.alloc (.cells #[.int .u8 125] 5) = w95 at hN95 hT95 hH95 ⊢
                refine hK.out _ _ ?_ (fun hHeld => ?_)
                · exact (fiveC hH95).2.2.2.2
                clear hK K
                go_simp
                refine wpAnyH_ready (rs := [10]) (by kernel_rfl) (by simp) ?_
                refine AllReadyH.cons rfl (fun K hK => ?_) AllReadyH.nil
                go_simp
                refine (hgap _).mono ?_
                rintro e w96 ⟨rfl, hww⟩
                subst hww
                refine hK.out _ _ ?_ (fun hHeld => ?_)
                · exact (fiveC hH95).2.2.2.2
                clear hK K
                go_simp
                refine wpAnyH_ready (rs := [11]) (by kernel_rfl) (by simp) ?_
                refine AllReadyH.cons rfl (fun K hK => ?_) AllReadyH.nil
                refine step_s rfl (.tmp 40) (.tmp 42) rfl rfl hT95 rfl (by simp only [List.length_append]; omega) ?_
                intro v97 w97 hT97 ho97 hk97
                have hH97 := ho97 _ _ _ _ hH95 (by decide)
                have hN97x12 := hk97 _ _ hN95 hap95
                have hap97x12 := hT97.apart (c := 125) rfl hN97x12 (by intro e; have h1 := congrArg List.length e; simp only [List.length_append, List.length_nil] at h1; omega) (by intro e; have h1 := congrArg List.length e; simp only [List.length_append, List.length_cons, List.length_nil] at h1; omega)
                clear ho97 hk97
                refine hK.out _ _ ?_ (fun hHeld => ?_)
                · exact (fiveC hH97).2.2.2.2
                clear hK K
                go_simp
                refine wpAnyH_ready (rs := [13]) (by kernel_rfl) (by simp) ?_
                refine AllReadyH.cons rfl (fun K hK => ?_) AllReadyH.nil
                refine step_t rfl (.tmp 43) (.tmp 44) rfl rfl hT97 rfl rfl (lies1 (c := 125) rfl hN97x12) (by simp only [List.length_append, List.length_cons, List.length_nil]; omega) ?_
                intro v98 w98 hT98 ho98 hk98
                have hH98 := ho98 _ _ _ _ hH97 (by decide)
                clear ho98 hk98
                refine hK.out _ _ ?_ (fun hHeld => ?_)
                · exact (fiveC hH98).2.2.2.2
                clear hK K
                go_simp
                refine wpAnyH_take (i := 14) (v := ?_) rfl (by kernel_rfl) (by kernel_rfl) (by kernel_rfl) (fun _ _ _ h => h) (Or.inl ⟨by kernel_rfl, ?_⟩) (by assumption) ?_
                rotate_left
                · (intro w' hSw; (try dsimp only at hSw); go_simp); try with_reducible rfl
                go_simp
                refine wpAnyH_done (by kernel_rfl) ?_ _
                obtain ⟨va99, vn99, vc99, rfl⟩ := hT98.shape
                go_wp2_with (first | (go_at_call 16; ((with_reducible refine (hgap _).mono ?_); rintro e w' ⟨rfl, rfl⟩)) | (at_builtin; refine app_s rfl (.tmp 85) (.tmp 87) rfl rfl hT98 rfl (by simp only [List.length_append, List.length_cons, List.length_nil]; omega) ?_; intro v' w99q hT99 ho99; obtain ⟨va99, vn99, vc99, rfl⟩ := hT99.shape))
                have HT99 := Lib.hid hT99
                clear hT99
                go_roundg (ps.length - (q + 1))
                case measure => have h1 := HK.out; have h2 := HLT.out; omega
                case rel => exact ⟨q + 1, HLT.out, rfl, by go_num, by rw [HE.out]; exact HT99.out⟩
              refine AllReadyH.cons rfl (fun K hK => ?_) AllReadyH.nil
              go_simp
              have hN99 := alloc_new w86 (.cells #[.int .u8 125] 5)
              have hT99 := hT86.alloc (.cells #[.int .u8 125] 5)
              have hH99 := keepA (.cells #[.int .u8 125] 5) hH86
              have hL99 := keepL ((Below.refl _ _).alloc (Nat.le_refl _) (.cells #[.int .u8 125] 5)) hL86 hlt86
              have hlt99 : gb86 < (w86.alloc (.cells #[.int .u8 125] 5)).heap.size := Nat.lt_of_lt_of_le hlt86 (((Below.refl w86.heap.size w86).alloc (Nat.le_refl _) (.cells #[.int .u8 125] 5)).size)
              have hap99 := hT86.fresh
              generalize w86.heap.size = b99 at hN99 hap99 ⊢
              generalize w86.alloc (.cells #[.int .u8 125] 5) = w99 at hN99 hT99 hH99 hL99 hlt99 ⊢
              refine hK.out _ _ ?_ (fun hHeld => ?_)
              · exact (fiveC hH99).2.2.2.2
              clear hK K
              go_simp
              refine wpAnyH_ready (rs := [8]) (by kernel_rfl) (by simp) ?_
              refine AllReadyH.cons rfl (fun K hK => ?_) AllReadyH.nil
              refine step_t rfl (.tmp 35) (.tmp 39) rfl rfl hT99 rfl rfl hL99 (by simp only [List.length_append]; omega) ?_
              intro v100 w100 hT100 ho100 hk100
              have hH100 := ho100 _ _ _ _ hH99 (by decide)
              have hN100x12 := hk100 _ _ hN99 hap99
              have hap100x12 := hT100.apart (c := 125) rfl hN100x12 (by intro e; have h1 := congrArg List.length e; simp only [List.length_append, List.length_nil] at h1; omega) (by intro e; have h1 := congrArg List.length e; simp only [List.length_append, List.length_cons, List.length_nil] at h1; omega)
              clear ho100 hk100
              refine hK.out _ _ ?_ (fun hHeld => ?_)
              · exact (fiveC hH100).2.2.2.2
              clear hK K
              go_simp
              refine wpAnyH_ready (rs := [10]) (by kernel_rfl) (by simp) ?_
              refine AllReadyH.cons rfl (fun K hK => ?_) AllReadyH.nil
              go_simp
              refine (hgap _).mono ?_
              rintro e w101 ⟨rfl, hww⟩
              subst hww
              refine hK.out _ _ ?_ (fun hHeld => ?_)
              · exact (fiveC hH100).2.2.2.2
              clear hK K
              go_simp
              refine wpAnyH_ready (rs := [11]) (by kernel_rfl) (by simp) ?_
              refine AllReadyH.cons rfl (fun K hK => ?_) AllReadyH.nil
              refine step_s rfl (.tmp 40) (.tmp 42) rfl rfl hT100 rfl (by simp only [List.length_append]; omega) ?_
              intro v102 w102 hT102 ho102 hk102
              have hH102 := ho102 _ _ _ _ hH100 (by decide)
              have hN102x12 := hk102 _ _ hN100x12 hap100x12
              have hap102x12 := hT102.apart (c := 125) rfl hN102x12 (by intro e; have h1 := congrArg List.length e; simp only [List.length_append, List.length_nil] at h1; omega) (by intro e; have h1 := congrArg List.length e; simp only [List.length_append, List.length_cons, List.length_nil] at h1; omega)
              clear ho102 hk102
              refine hK.out _ _ ?_ (fun hHeld => ?_)
              · exact (fiveC hH102).2.2.2.2
              clear hK K
              go_simp
              refine wpAnyH_ready (rs := [13]) (by kernel_rfl) (by simp) ?_
              refine AllReadyH.cons rfl (fun K hK => ?_) AllReadyH.nil
              refine step_t rfl (.tmp 43) (.tmp 44) rfl rfl hT102 rfl rfl (lies1 (c := 125) rfl hN102x12) (by simp only [List.length_append, List.length_cons, List.length_nil]; omega) ?_
              intro v103 w103 hT103 ho103 hk103
              have hH103 := ho103 _ _ _ _ hH102 (by decide)
              clear ho103 hk103
              refine hK.out _ _ ?_ (fun hHeld => ?_)
              · exact (fiveC hH103).2.2.2.2
              clear hK K
              go_simp
              refine wpAnyH_take (i := 14) (v := ?_) rfl (by kernel_rfl) (by kernel_rfl) (by kernel_rfl) (fun _ _ _ h => h) (Or.inl ⟨by kernel_rfl, ?_⟩) (by assumption) ?_
              rotate_left
              · (intro w' hSw; (try dsimp only at hSw); go_simp); try with_reducible rfl
              go_simp
              refine wpAnyH_done (by kernel_rfl) ?_ _
              obtain ⟨va99, vn99, vc99, rfl⟩ := hT103.shape
              go_wp2_with (first | (go_at_call 16; ((with_reducible refine (hgap _).mono ?_); rintro e w' ⟨rfl, rfl⟩)) | (at_builtin; refine app_s rfl (.tmp 85) (.tmp 87) rfl rfl hT103 rfl (by simp only [List.length_append, List.length_cons, List.length_nil]; omega) ?_; intro v' w99q hT99 ho99; obtain ⟨va99, vn99, vc99, rfl⟩ := hT99.shape))
              have HT99 := Lib.hid hT99
              clear hT99
              go_roundg (ps.length - (q + 1))
              case measure => have h1 := HK.out; have h2 := HLT.out; omega
              case rel => exact ⟨q + 1, HLT.out, rfl, by go_num, by rw [HE.out]; exact HT99.out⟩
            refine AllReadyH.cons rfl (fun K hK => ?_) AllReadyH.nil
            go_simp
            have hN104 := alloc_new w85 (.cells #[.int .u8 125] 5)
            have hT104 := hT85.alloc (.cells #[.int .u8 125] 5)
            have hH104 := keepA (.cells #[.int .u8 125] 5) hH85
            have hap104 := hT85.fresh
            generalize w85.heap.size = b104 at hN104 hap104 ⊢
            generalize w85.alloc (.cells #[.int .u8 125] 5) = w104 at hN104 hT104 hH104 ⊢
            refine hK.out _ _ ?_ (fun hHeld => ?_)
            · exact (fiveC hH104).2.2.2.2
            clear hK K
            go_simp
            refine wpAnyH_ready (rs := [7]) (by kernel_rfl) (by simp) ?_
            refine AllReadyH.cons rfl (fun K hK => ?_) AllReadyH.nil
            go_simp
            refine (HIH.out w104 _ p.parts (HPM.out.goOn hT104.bel) HPO.out).mono ?_
            rintro e w105 ⟨wv105, rfl, hTw105⟩
            obtain ⟨gb105, wcap105, rfl, hlt105, hwc105, hL105⟩ := hTw105.lies
            have hbel105 := hTw105.bel
            have hT105 := hT104.below hbel105
            have hH105 := keepB hbel105 hH104
            have hN105x12 := keepB hbel105 hN104
            clear hTw105 hbel105
            refine hK.out _ _ ?_ (fun hHeld => ?_)
            · exact (fiveC hH105).2.2.2.2
            clear hK K
            go_simp
            refine wpAnyH_ready (rs := [8]) (by kernel_rfl) (by simp) ?_
            refine AllReadyH.cons rfl (fun K hK => ?_) AllReadyH.nil
            refine step_t rfl (.tmp 35) (.tmp 39) rfl rfl hT105 rfl rfl hL105 (by simp only [List.length_append]; omega) ?_
            intro v106 w106 hT106 ho106 hk106
            have hH106 := ho106 _ _ _ _ hH105 (by decide)
            have hN106x12 := hk106 _ _ hN105x12 hap104
            have hap106x12 := hT106.apart (c := 125) rfl hN106x12 (by intro e; have h1 := congrArg List.length e; simp only [List.length_append, List.length_nil] at h1; omega) (by intro e; have h1 := congrArg List.length e; simp only [List.length_append, List.length_cons, List.length_nil] at h1; omega)
            clear ho106 hk106
            refine hK.out _ _ ?_ (fun hHeld => ?_)
            · exact (fiveC hH106).2.2.2.2
            clear hK K
            go_simp
            refine wpAnyH_ready (rs := [10]) (by kernel_rfl) (by simp) ?_
            refine AllReadyH.cons rfl (fun K hK => ?_) AllReadyH.nil
            go_simp
            refine (hgap _).mono ?_
            rintro e w107 ⟨rfl, hww⟩
            subst hww
            refine hK.out _ _ ?_ (fun hHeld => ?_)
            · exact (fiveC hH106).2.2.2.2
            clear hK K
            go_simp
            refine wpAnyH_ready (rs := [11]) (by kernel_rfl) (by simp) ?_
            refine AllReadyH.cons rfl (fun K hK => ?_) AllReadyH.nil
            refine step_s rfl (.tmp 40) (.tmp 42) rfl rfl hT106 rfl (by simp only [List.length_append]; omega) ?_
            intro v108 w108 hT108 ho108 hk108
            have hH108 := ho108 _ _ _ _ hH106 (by decide)
            have hN108x12 := hk108 _ _ hN106x12 hap106x12
            have hap108x12 := hT108.apart (c := 125) rfl hN108x12 (by intro e; have h1 := congrArg List.length e; simp only [List.length_append, List.length_nil] at h1; omega) (by intro e; have h1 := congrArg List.length e; simp only [List.length_append, List.length_cons, List.length_nil] at h1; omega)
            clear ho108 hk108
            refine hK.out _ _ ?_ (fun hHeld => ?_)
            · exact (fiveC hH108).2.2.2.2
            clear hK K
            go_simp
            refine wpAnyH_ready (rs := [13]) (by kernel_rfl) (by simp) ?_
            refine AllReadyH.cons rfl (fun K hK => ?_) AllReadyH.nil
            refine step_t rfl (.tmp 43) (.tmp 44) rfl rfl hT108 rfl rfl (lies1 (c := 125) rfl hN108x12) (by simp only [List.length_append, List.length_cons, List.length_nil]; omega) ?_
            intro v109 w109 hT109 ho109 hk109
            have hH109 := ho109 _ _ _ _ hH108 (by decide)
            clear ho109 hk109
            refine hK.out _ _ ?_ (fun hHeld => ?_)
            · exact (fiveC hH109).2.2.2.2
            clear hK K
            go_simp
            refine wpAnyH_take (i := 14) (v := ?_) rfl (by kernel_rfl) (by kernel_rfl) (by kernel_rfl) (fun _ _ _ h => h) (Or.inl ⟨by kernel_rfl, ?_⟩) (by assumption) ?_
            rotate_left
            · (intro w' hSw; (try dsimp only at hSw); go_simp); try with_reducible rfl
            go_simp
            refine wpAnyH_done (by kernel_rfl) ?_ _
            obtain ⟨va99, vn99, vc99, rfl⟩ := hT109.shape
            go_wp2_with (first | (go_at_call 16; ((with_reducible refine (hgap _).mono ?_); rintro e w' ⟨rfl, rfl⟩)) | (at_builtin; refine app_s rfl (.tmp 85) (.tmp 87) rfl rfl hT109 rfl (by simp only [List.length_append, List.length_cons, List.length_nil]; omega) ?_; intro v' w99q hT99 ho99; obtain ⟨va99, vn99, vc99, rfl⟩ := hT99.shape))
            have HT99 := Lib.hid hT99
            clear hT99
            go_roundg (ps.length - (q + 1))
            case measure => have h1 := HK.out; have h2 := HLT.out; omega
            case rel => exact ⟨q + 1, HLT.out, rfl, by go_num, by rw [HE.out]; exact HT99.out⟩
          refine AllReadyH.cons rfl (fun K hK => ?_) AllReadyH.nil
          go_simp
          have hN110 := alloc_new wd (.cells #[.int .u8 125] 5)
          have hT110 := hTd.alloc (.cells #[.int .u8 125] 5)
          have hH110 := keepA (.cells #[.int .u8 125] 5) hHd
          have hap110 := hTd.fresh
          generalize wd.heap.size = b110 at hN110 hap110 ⊢
          generalize wd.alloc (.cells #[.int .u8 125] 5) = w110 at hN110 hT110 hH110 ⊢
          refine hK.out _ _ ?_ (fun hHeld => ?_)
          · exact (fiveC hH110).2.2.2.2
          clear hK K
          go_simp
          refine wpAnyH_ready (rs := [3]) (by kernel_rfl) (by simp) ?_
          refine AllReadyH.cons rfl (fun K hK => ?_) AllReadyH.nil
          refine step_s rfl (.tmp 32) (.tmp 34) rfl rfl hT110 rfl (by omega) ?_
          intro v111 w111 hT111 ho111 hk111
          have hH111 := ho111 _ _ _ _ hH110 (by decide)
          have hN111x12 := hk111 _ _ hN110 hap110
          have hap111x12 := hT111.apart (c := 125) rfl hN111x12 (by intro e; have h1 := congrArg List.length e; simp only [List.length_append, List.length_nil] at h1; omega) (by intro e; have h1 := congrArg List.length e; simp only [List.length_append, List.length_cons, List.length_nil] at h1; omega)
          clear ho111 hk111
          refine hK.out _ _ ?_ (fun hHeld => ?_)
          · exact (fiveC hH111).2.2.2.2
          clear hK K
          go_simp
          refine wpAnyH_ready (rs := [7]) (by kernel_rfl) (by simp) ?_
          refine AllReadyH.cons rfl (fun K hK => ?_) AllReadyH.nil
          go_simp
          refine (HIH.out w111 _ p.parts (HPM.out.goOn hT111.bel) HPO.out).mono ?_
          rintro e w112 ⟨wv112, rfl, hTw112⟩
          obtain ⟨gb112, wcap112, rfl, hlt112, hwc112, hL112⟩ := hTw112.lies
          have hbel112 := hTw112.bel
          have hT112 := hT111.below hbel112
          have hH112 := keepB hbel112 hH111
          have hN112x12 := keepB hbel112 hN111x12
          clear hTw112 hbel112
          refine hK.out _ _ ?_ (fun hHeld => ?_)
          · exact (fiveC hH112).2.2.2.2
          clear hK K
          go_simp
          refine wpAnyH_ready (rs := [8]) (by kernel_rfl) (by simp) ?_
          refine AllReadyH.cons rfl (fun K hK => ?_) AllReadyH.nil
          refine step_t rfl (.tmp 35) (.tmp 39) rfl rfl hT112 rfl rfl hL112 (by simp only [List.length_append]; omega) ?_
          intro v113 w113 hT113 ho113 hk113
          have hH113 := ho113 _ _ _ _ hH112 (by decide)
          have hN113x12 := hk113 _ _ hN112x12 hap111x12
          have hap113x12 := hT113.apart (c := 125) rfl hN113x12 (by intro e; have h1 := congrArg List.length e; simp only [List.length_append, List.length_nil] at h1; omega) (by intro e; have h1 := congrArg List.length e; simp only [List.length_append, List.length_cons, List.length_nil] at h1; omega)
          clear ho113 hk113
          refine hK.out _ _ ?_ (fun hHeld => ?_)
          · exact (fiveC hH113).2.2.2.2
          clear hK K
          go_simp
          refine wpAnyH_ready (rs := [10]) (by kernel_rfl) (by simp) ?_
          refine AllReadyH.cons rfl (fun K hK => ?_) AllReadyH.nil
          go_simp
          refine (hgap _).mono ?_
          rintro e w114 ⟨rfl, hww⟩
          subst hww
          refine hK.out _ _ ?_ (fun hHeld => ?_)
          · exact (fiveC hH113).2.2.2.2
          clear hK K
          go_simp
          refine wpAnyH_ready (rs := [11]) (by kernel_rfl) (by simp) ?_
          refine AllReadyH.cons rfl (fun K hK => ?_) AllReadyH.nil
          refine step_s rfl (.tmp 40) (.tmp 42) rfl rfl hT113 rfl (by simp only [List.length_append]; omega) ?_
          intro v115 w115 hT115 ho115 hk115
          have hH115 := ho115 _ _ _ _ hH113 (by decide)
          have hN115x12 := hk115 _ _ hN113x12 hap113x12
          have hap115x12 := hT115.apart (c := 125) rfl hN115x12 (by intro e; have h1 := congrArg List.length e; simp only [List.length_append, List.length_nil] at h1; omega) (by intro e; have h1 := congrArg List.length e; simp only [List.length_append, List.length_cons, List.length_nil] at h1; omega)
          clear ho115 hk115
          refine hK.out _ _ ?_ (fun hHeld => ?_)
          · exact (fiveC hH115).2.2.2.2
          clear hK K
          go_simp
          refine wpAnyH_ready (rs := [13]) (by kernel_rfl) (by simp) ?_
          refine AllReadyH.cons rfl (fun K hK => ?_) AllReadyH.nil
          refine step_t rfl (.tmp 43) (.tmp 44) rfl rfl hT115 rfl rfl (lies1 (c := 125) rfl hN115x12) (by simp only [List.length_append, List.length_cons, List.length_nil]; omega) ?_
          intro v116 w116 hT116 ho116 hk116
          have hH116 := ho116 _ _ _ _ hH115 (by decide)
          clear ho116 hk116
          refine hK.out _ _ ?_ (fun hHeld => ?_)
          · exact (fiveC hH116).2.2.2.2
          clear hK K
          go_simp
          refine wpAnyH_take (i := 14) (v := ?_) rfl (by kernel_rfl) (by kernel_rfl) (by kernel_rfl) (fun _ _ _ h => h) (Or.inl ⟨by kernel_rfl, ?_⟩) (by assumption) ?_
          rotate_left
          · (intro w' hSw; (try dsimp only at hSw); go_simp); try with_reducible rfl
          go_simp
          refine wpAnyH_done (by kernel_rfl) ?_ _
          obtain ⟨va99, vn99, vc99, rfl⟩ := hT116.shape
          go_wp2_with (first | (go_at_call 16; ((with_reducible refine (hgap _).mono ?_); rintro e w' ⟨rfl, rfl⟩)) | (at_builtin; refine app_s rfl (.tmp 85) (.tmp 87) rfl rfl hT116 rfl (by simp only [List.length_append, List.length_cons, List.length_nil]; omega) ?_; intro v' w99q hT99 ho99; obtain ⟨va99, vn99, vc99, rfl⟩ := hT99.shape))
          have HT99 := Lib.hid hT99
          clear hT99
          go_roundg (ps.length - (q + 1))
          case measure => have h1 := HK.out; have h2 := HLT.out; omega
          case rel => exact ⟨q + 1, HLT.out, rfl, by go_num, by rw [HE.out]; exact HT99.out⟩
        refine AllReadyH.cons rfl (fun K hK => ?_) AllReadyH.nil
        go_simp
        have hN117 := alloc_new wd (.cells #[.int .u8 125] 5)
        have hT117 := hTd.alloc (.cells #[.int .u8 125] 5)
        have hH117 := keepA (.cells #[.int .u8 125] 5) hHd
        have hap117 := hTd.fresh
        generalize wd.heap.size = b117 at hN117 hap117 ⊢
        generalize wd.alloc (.cells #[.int .u8 125] 5) = w117 at hN117 hT117 hH117 ⊢
        refine hK.out _ _ ?_ (fun hHeld => ?_)
        · exact (fiveC hH117).2.2.2.2
        clear hK K
        go_simp
        refine wpAnyH_ready (rs := [2]) (by kernel_rfl) (by simp) ?_
        refine AllReadyH.cons rfl (fun K hK => ?_) AllReadyH.nil
        go_simp
        refine (hgap _).mono ?_
        rintro e w118 ⟨rfl, hww⟩
        subst hww
        refine hK.out _ _ ?_ (fun hHeld => ?_)
        · exact (fiveC hH117).2.2.2.2
        clear hK K
        go_simp
        refine wpAnyH_ready (rs := [3]) (by kernel_rfl) (by simp) ?_
        refine AllReadyH.cons rfl (fun K hK => ?_) AllReadyH.nil
        refine step_s rfl (.tmp 32) (.tmp 34) rfl rfl hT117 rfl (by omega) ?_
        intro v119 w119 hT119 ho119 hk119
        have hH119 := ho119 _ _ _ _ hH117 (by decide)
        have hN119x12 := hk119 _ _ hN117 hap117
        have hap119x12 := hT119.apart (c := 125) rfl hN119x12 (by intro e; have h1 := congrArg List.length e; simp only [List.length_append, List.length_nil] at h1; omega) (by intro e; have h1 := congrArg List.length e; simp only [List.length_append, List.length_cons, List.length_nil] at h1; omega)
        clear ho119 hk119
        refine hK.out _ _ ?_ (fun hHeld => ?_)
        · exact (fiveC hH119).2.2.2.2
        clear hK K
        go_simp
        refine wpAnyH_ready (rs := [7]) (by kernel_rfl) (by simp) ?_
        refine AllReadyH.cons rfl (fun K hK => ?_) AllReadyH.nil
        go_simp
        refine (HIH.out w119 _ p.parts (HPM.out.goOn hT119.bel) HPO.out).mono ?_
        rintro e w120 ⟨wv120, rfl, hTw120⟩
        obtain ⟨gb120, wcap120, rfl, hlt120, hwc120, hL120⟩ := hTw120.lies
        have hbel120 := hTw120.bel
        have hT120 := hT119.below hbel120
        have hH120 := keepB hbel120 hH119
        have hN120x12 := keepB hbel120 hN119x12
        clear hTw120 hbel120
        refine hK.out _ _ ?_ (fun hHeld => ?_)
        · exact (fiveC hH120).2.2.2.2
        clear hK K
        go_simp
        refine wpAnyH_ready (rs := [8]) (by kernel_rfl) (by simp) ?_
        refine AllReadyH.cons rfl (fun K hK => ?_) AllReadyH.nil
        refine step_t rfl (.tmp 35) (.tmp 39) rfl rfl hT120 rfl rfl hL120 (by simp only [List.length_append]; omega) ?_
        intro v121 w121 hT121 ho121 hk121
        have hH121 := ho121 _ _ _ _ hH120 (by decide)
        have hN121x12 := hk121 _ _ hN120x12 hap119x12
        have hap121x12 := hT121.apart (c := 125) rfl hN121x12 (by intro e; have h1 := congrArg List.length e; simp only [List.length_append, List.length_nil] at h1; omega) (by intro e; have h1 := congrArg List.length e; simp only [List.length_append, List.length_cons, List.length_nil] at h1; omega)
        clear ho121 hk121
        refine hK.out _ _ ?_ (fun hHeld => ?_)
        · exact (fiveC hH121).2.2.2.2
        clear hK K
        go_simp
        refine wpAnyH_ready (rs := [10]) (by kernel_rfl) (by simp) ?_
        refine AllReadyH.cons rfl (fun K hK => ?_) AllReadyH.nil
        go_simp
        refine (hgap _).mono ?_
        rintro e w122 ⟨rfl, hww⟩
        subst hww
        refine hK.out _ _ ?_ (fun hHeld => ?_)
        · exact (fiveC hH121).2.2.2.2
        clear hK K
        go_simp
        refine wpAnyH_ready (rs := [11]) (by kernel_rfl) (by simp) ?_
        refine AllReadyH.cons rfl (fun K hK => ?_) AllReadyH.nil
        refine step_s rfl (.tmp 40) (.tmp 42) rfl rfl hT121 rfl (by simp only [List.length_append]; omega) ?_
        intro v123 w123 hT123 ho123 hk123
        have hH123 := ho123 _ _ _ _ hH121 (by decide)
        have hN123x12 := hk123 _ _ hN121x12 hap121x12
        have hap123x12 := hT123.apart (c := 125) rfl hN123x12 (by intro e; have h1 := congrArg List.length e; simp only [List.length_append, List.length_nil] at h1; omega) (by intro e; have h1 := congrArg List.length e; simp only [List.length_append, List.length_cons, List.length_nil] at h1; omega)
        clear ho123 hk123
        refine hK.out _ _ ?_ (fun hHeld => ?_)
        · exact (fiveC hH123).2.2.2.2
        clear hK K
        go_simp
        refine wpAnyH_ready (rs := [13]) (by kernel_rfl) (by simp) ?_
        refine AllReadyH.cons rfl (fun K hK => ?_) AllReadyH.nil
        refine step_t rfl (.tmp 43) (.tmp 44) rfl rfl hT123 rfl rfl (lies1 (c := 125) rfl hN123x12) (by simp only [List.length_append, List.length_cons, List.length_nil]; omega) ?_
        intro v124 w124 hT124 ho124 hk124
        have hH124 := ho124 _ _ _ _ hH123 (by decide)
        clear ho124 hk124
        refine hK.out _ _ ?_ (fun hHeld => ?_)
        · exact (fiveC hH124).2.2.2.2
        clear hK K
        go_simp
        refine wpAnyH_take (i := 14) (v := ?_) rfl (by kernel_rfl) (by kernel_rfl) (by kernel_rfl) (fun _ _ _ h => h) (Or.inl ⟨by kernel_rfl, ?_⟩) (by assumption) ?_
        rotate_left
        · (intro w' hSw; (try dsimp only at hSw); go_simp); try with_reducible rfl
        go_simp
        refine wpAnyH_done (by kernel_rfl) ?_ _
        obtain ⟨va99, vn99, vc99, rfl⟩ := hT124.shape
        go_wp2_with (first | (go_at_call 16; ((with_reducible refine (hgap _).mono ?_); rintro e w' ⟨rfl, rfl⟩)) | (at_builtin; refine app_s rfl (.tmp 85) (.tmp 87) rfl rfl hT124 rfl (by simp only [List.length_append, List.length_cons, List.length_nil]; omega) ?_; intro v' w99q hT99 ho99; obtain ⟨va99, vn99, vc99, rfl⟩ := hT99.shape))
        have HT99 := Lib.hid hT99
        clear hT99
        go_roundg (ps.length - (q + 1))
        case measure => have h1 := HK.out; have h2 := HLT.out; omega
        case rel => exact ⟨q + 1, HLT.out, rfl, by go_num, by rw [HE.out]; exact HT99.out⟩
    · have hq' : q = ps.length := by omega
      have HT := Lib.hid hT
      subst hq'
      go_wp2
      go_ret
      have := HT.out
      rw [List.take_length] at this
      exact ⟨_, rfl, this⟩
theorem text_any (st : Int) (hst : st = 0 ∨ st = 1 ∨ st = 2) (d : Nat) (hd : d ≤ 3) : TextP st d := by
  induction d with
  | zero => exact text_step st hst 0 hd (fun _ h => by omega)
  | succ d ih => exact text_step st hst (d + 1) hd (fun d' h => by
      obtain rfl : d = d' := by omega
      exact ih (by omega))
end Go.Proofs.YtlglijnaeaonpaaGreatDoor.Css
