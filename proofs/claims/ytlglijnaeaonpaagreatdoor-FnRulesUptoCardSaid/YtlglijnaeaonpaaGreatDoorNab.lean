/- Whether one part is one of a sheet. -/
import Derived.Test.YtlglijnaeaonpaaGreatDoorNaa
import Derived.Test.YtlglijnaeaonpaaGreatDoorNr
set_option linter.all false
/- Whether one part is one of a sheet. -/
namespace Go.Proofs.YtlglijnaeaonpaaGreatDoor.Css
open Go.RowKit

set_option maxRecDepth 100000 in
set_option maxHeartbeats 4000000 in
theorem part_block (d : Nat) (hd : d ≤ 1000) (IH : ∀ d', d = d' + 1 → AreP d') (w : World) (p : PT) (nv wv dv pv : Value) (hm : PMem w p nv wv dv) (hp : PartsMem w pv p.parts) (hU : Utab w) (hk : (p.kind.toList == [98, 108, 111, 99, 107]) = true) :
    Calls Tryz.prog 15 #[.agg #[.string p.kind, nv, wv, dv, pv], .int .i64 d] w (BPost w (PartOK d p)) := by
  obtain ⟨na, nc, rfl, _, _, _⟩ := id hm.nm
  obtain ⟨wa, wc0, rfl, hw1, hw2, _⟩ := id hm.ws
  obtain ⟨da, dc, rfl, hd1, hd2, _⟩ := id hm.ds
  obtain ⟨pa, pc, rfl, hp1, hp2⟩ := hp.shape
  have HMM := Lib.hid (show _ ∧ _ ∧ _ from ⟨hm, hp, hU⟩)
  obtain ⟨n1, hn1⟩ : ∃ n1, n1 = p.words.length := ⟨_, rfl⟩
  obtain ⟨n2, hn2⟩ : ∃ n2, n2 = p.parts.length := ⟨_, rfl⟩
  obtain ⟨n3, hn3⟩ : ∃ n3, n3 = p.decls.length := ⟨_, rfl⟩
  obtain ⟨n0, hn0⟩ : ∃ n0, n0 = p.name.length := ⟨_, rfl⟩
  obtain ⟨kk, hkk⟩ : ∃ kk, kk = p.kind := ⟨_, rfl⟩
  have HN := Lib.hid (show _ ∧ _ ∧ _ ∧ _ from ⟨hn1, hn2, hn3, hn0⟩)
  rw [← hn1] at hw1
  rw [← hn2] at hp1
  rw [← hn3] at hd1
  rw [← hn1, ← hn2, ← hn3, ← hn0, ← hkk]
  rw [← hkk] at hk
  have HK := Lib.hid hkk
  clear hm hp hU hn1 hn2 hn3 hn0 hkk
  go_enter Tryz.func15, Tryz.ntmps15
  go_upto_region 0 with fail
  go_cut [2] (fun s wx => ∃ tg, s = .pointer (some ⟨tg, 0, none⟩) ∧ wx.cell? ⟨tg, 0, none⟩ = some (.string kk) ∧ wx.cell? ⟨tg, 1, none⟩ = some (.slice na n0 nc) ∧ wx.cell? ⟨tg, 2, none⟩ = some (.slice wa n1 wc0) ∧ wx.cell? ⟨tg, 3, none⟩ = some (.slice da n3 dc) ∧ wx.cell? ⟨tg, 4, none⟩ = some (.slice pa n2 pc) ∧ tg < wx.heap.size ∧ Below w.heap.size w wx)
  case first =>
    have hb := (Below.refl w.heap.size w).alloc (Nat.le_refl _)
    go_wp2_with fail
    go_meet
    exact ⟨_, rfl, by rw [World.cell?_alloc_new]; rfl, by rw [World.cell?_alloc_new]; rfl, by rw [World.cell?_alloc_new]; rfl, by rw [World.cell?_alloc_new]; rfl, by rw [World.cell?_alloc_new]; rfl, by simp, hb _⟩
  case rest =>
  obtain ⟨tg, rfl, c0, c1, c2, c3, c4, htg, hbx⟩ := hcut
  have hk0 : (kk.toList == [114, 117, 108, 101]) = false := by rw [beq_iff_eq.1 hk]; decide
  have hk1 : (kk.toList == [97, 116]) = false := by rw [beq_iff_eq.1 hk]; decide
  have hni := fun w' (hb : Below wc.heap.size wc w') g a b c => nameIn36 w' _ _ ((HMM.out.1.nm.below (hbx.trans (hb.mono hbx.size))).slb) g a b c
  rw [← HN.out.2.2.2] at hni
  have HNI := Lib.hid hni
  have hpm := fun w' (hb : Below wc.heap.size wc w') => HMM.out.2.1.goOn (hbx.trans (hb.mono hbx.size))
  rw [← HN.out.2.1] at hpm
  have HPM := Lib.hid hpm
  have HUT := Lib.hid (fun w' (hb : Below wc.heap.size wc w') => HMM.out.2.2.below HMM.out.2.2.lt (hbx.trans (hb.mono hbx.size)))
  have HKR := Lib.hid hk
  have HIH := Lib.hid IH
  clear hni hpm IH
  go_upto_region 7 with fail
  by_cases hs : BlockN p.name
  · have HS := Lib.hid hs
    clear hs
    by_cases hw0 : n1 = 0
    · have d1 : decide ((0 : Int) < (n1 : Int)) = false := decide_eq_false (by omega)
      have d2 : decide (0 < n1) = false := decide_eq_false (by omega)
      have d3 : ¬ (0 : Int) < (n1 : Int) := by omega
      clear hw0
      refine wp_region_held_drew (S := fun w' => w'.cell? ⟨tg, 1, none⟩ = some (.slice na n0 nc) ∧ w'.cell? ⟨tg, 2, none⟩ = some (.slice wa n1 wc0) ∧ w'.cell? ⟨tg, 3, none⟩ = some (.slice da n3 dc) ∧ w'.cell? ⟨tg, 4, none⟩ = some (.slice pa n2 pc) ∧ Below wc.heap.size wc w') (by kernel_rfl) ?_ (fun hHeld => ?_)
      · exact ⟨c1, c2, c3, c4, (Below.refl _ _).drew⟩
      refine wpAnyH_take (i := 0) (v := ?_) rfl (by kernel_rfl) (by kernel_rfl) (by kernel_rfl) (fun _ _ _ h => h) (Or.inl ⟨by kernel_rfl, ?_⟩) (by assumption) ?_
      rotate_left
      · (intro w' hSw; (try dsimp only at hSw); go_simp); try with_reducible rfl
      go_simp
      refine wpAnyH_take (i := 1) (v := ?_) rfl (by kernel_rfl) (by kernel_rfl) (by kernel_rfl) (fun _ _ _ h => h) (Or.inl ⟨by kernel_rfl, ?_⟩) (by assumption) ?_
      rotate_left
      · (intro w' hSw; (try dsimp only at hSw); go_simp); try with_reducible rfl
      go_simp
      refine wpAnyH_ready (rs := [2]) (by kernel_rfl) (by simp) ?_
      refine AllReadyH.cons rfl (fun K hK => ?_) AllReadyH.nil
      go_simp
      refine (names36 _).mono ?_
      rintro e w1 ⟨g, rfl, e0, e1, e2, hb0⟩
      have hb1 : Below wc.heap.size wc w1 := ((Below.refl wc.heap.size wc).drew).trans hb0
      have hni := HNI.out _ hb1 g e0 e1 e2
      have hS1 : w1.cell? ⟨tg, 1, none⟩ = some (.slice na n0 nc) ∧ w1.cell? ⟨tg, 2, none⟩ = some (.slice wa n1 wc0) ∧ w1.cell? ⟨tg, 3, none⟩ = some (.slice da n3 dc) ∧ w1.cell? ⟨tg, 4, none⟩ = some (.slice pa n2 pc) ∧ Below wc.heap.size wc w1 := ⟨((hb1).cell (p := ⟨tg, 1, none⟩) htg).trans c1, ((hb1).cell (p := ⟨tg, 2, none⟩) htg).trans c2, ((hb1).cell (p := ⟨tg, 3, none⟩) htg).trans c3, ((hb1).cell (p := ⟨tg, 4, none⟩) htg).trans c4, hb1⟩
      refine hK.out _ _ ?_ (fun hHeld => ?_)
      · exact hS1
      clear hK K
      go_simp
      refine wpAnyH_ready (rs := [3]) (by kernel_rfl) (by simp) ?_
      refine AllReadyH.cons rfl (fun K hK => ?_) AllReadyH.nil
      go_simp
      refine hni.mono ?_
      rintro e w2 ⟨s, rfl, rfl, hs⟩
      have hs3 : s.toList.isEmpty = false := (by rcases hs with hs | hs; exact absurd HS.out hs.1; (have hq := hs.2; cases hl : s.toList with | nil => (rw [hl] at hq; cases hq) | cons _ _ => rfl))
      clear hs
      refine hK.out _ _ ?_ (fun hHeld => ?_)
      · exact hS1
      clear hK K
      go_simp
      refine wpAnyH_take (i := 4) (v := ?_) rfl (by kernel_rfl) (by kernel_rfl) (by kernel_rfl) (fun _ _ _ h => h) (Or.inl ⟨by kernel_rfl, ?_⟩) (by assumption) ?_
      rotate_left
      · (intro w' hSw; (try dsimp only at hSw); go_simp); try with_reducible rfl
      go_simp
      refine wpAnyH_take (i := 5) (v := ?_) rfl (by kernel_rfl) (by kernel_rfl) (by kernel_rfl) (fun _ _ _ h => h) (Or.inl ⟨by kernel_rfl, ?_⟩) (by assumption) ?_
      rotate_left
      · (intro w' hSw; (try dsimp only at hSw); go_simp); try with_reducible rfl
      go_simp
      refine wpAnyH_take (i := 6) (v := ?_) rfl (by kernel_rfl) (by kernel_rfl) (by kernel_rfl) (fun _ _ _ h => h) (Or.inl ⟨by kernel_rfl, ?_⟩) (by assumption) ?_
      rotate_left
      · (intro w' hSw; (try dsimp only at hSw); go_simp); try with_reducible rfl
      go_simp
      refine wpAnyH_take (i := 7) (v := ?_) rfl (by kernel_rfl) (by kernel_rfl) (by kernel_rfl) (fun _ _ _ h => h) (Or.inl ⟨by kernel_rfl, ?_⟩) (by assumption) ?_
      rotate_left
      · (intro w' hSw; (try dsimp only at hSw); go_simp); try with_reducible rfl
      go_simp
      refine wpAnyH_take (i := 8) (v := ?_) rfl (by kernel_rfl) (by kernel_rfl) (by kernel_rfl) (fun _ _ _ h => h) (Or.inl ⟨by kernel_rfl, ?_⟩) (by assumption) ?_
      rotate_left
      · (intro w' hSw; (try dsimp only at hSw); go_simp); try with_reducible rfl
      go_simp
      refine wpAnyH_take (i := 9) (v := ?_) rfl (by kernel_rfl) (by kernel_rfl) (by kernel_rfl) (fun _ _ _ h => h) (Or.inl ⟨by kernel_rfl, ?_⟩) (by assumption) ?_
      rotate_left
      · (intro w' hSw; (try dsimp only at hSw); go_simp); try with_reducible rfl
      go_simp
      refine wpAnyH_take (i := 10) (v := ?_) rfl (by kernel_rfl) (by kernel_rfl) (by kernel_rfl) (fun _ _ _ h => h) (Or.inl ⟨by kernel_rfl, ?_⟩) (by assumption) ?_
      rotate_left
      · (intro w' hSw; (try dsimp only at hSw); go_simp); try with_reducible rfl
      go_simp
      refine wpAnyH_take (i := 11) (v := ?_) rfl (by kernel_rfl) (by kernel_rfl) (by kernel_rfl) (fun _ _ _ h => h) (Or.inl ⟨by kernel_rfl, ?_⟩) (by assumption) ?_
      rotate_left
      · (intro w' hSw; (try dsimp only at hSw); go_simp); try with_reducible rfl
      go_simp
      refine wpAnyH_take (i := 12) (v := undef) rfl (by kernel_rfl) (by kernel_rfl) (by kernel_rfl) (fun _ _ _ h => h) (Or.inr ⟨by kernel_rfl, rfl⟩) (by assumption) ?_
      go_simp
      refine wpAnyH_take (i := 13) (v := undef) rfl (by kernel_rfl) (by kernel_rfl) (by kernel_rfl) (fun _ _ _ h => h) (Or.inr ⟨by kernel_rfl, rfl⟩) (by assumption) ?_
      go_simp
      refine wpAnyH_take (i := 14) (v := undef) rfl (by kernel_rfl) (by kernel_rfl) (by kernel_rfl) (fun _ _ _ h => h) (Or.inr ⟨by kernel_rfl, rfl⟩) (by assumption) ?_
      go_simp
      refine wpAnyH_take (i := 15) (v := undef) rfl (by kernel_rfl) (by kernel_rfl) (by kernel_rfl) (fun _ _ _ h => h) (Or.inr ⟨by kernel_rfl, rfl⟩) (by assumption) ?_
      go_simp
      refine wpAnyH_take (i := 16) (v := ?_) rfl (by kernel_rfl) (by kernel_rfl) (by kernel_rfl) (fun _ _ _ h => h) (Or.inl ⟨by kernel_rfl, ?_⟩) (by assumption) ?_
      rotate_left
      · (intro w' hSw; (try dsimp only at hSw); go_simp); try with_reducible rfl
      go_simp
      refine wpAnyH_take (i := 17) (v := ?_) rfl (by kernel_rfl) (by kernel_rfl) (by kernel_rfl) (fun _ _ _ h => h) (Or.inl ⟨by kernel_rfl, ?_⟩) (by assumption) ?_
      rotate_left
      · (intro w' hSw; (try dsimp only at hSw); go_simp); try with_reducible rfl
      go_simp
      refine wpAnyH_take (i := 18) (v := undef) rfl (by kernel_rfl) (by kernel_rfl) (by kernel_rfl) (fun _ _ _ h => h) (Or.inr ⟨by kernel_rfl, rfl⟩) (by assumption) ?_
      go_simp
      refine wpAnyH_take (i := 19) (v := undef) rfl (by kernel_rfl) (by kernel_rfl) (by kernel_rfl) (fun _ _ _ h => h) (Or.inr ⟨by kernel_rfl, rfl⟩) (by assumption) ?_
      go_simp
      refine wpAnyH_take (i := 20) (v := ?_) rfl (by kernel_rfl) (by kernel_rfl) (by kernel_rfl) (fun _ _ _ h => h) (Or.inl ⟨by kernel_rfl, ?_⟩) (by assumption) ?_
      rotate_left
      · (intro w' hSw; (try dsimp only at hSw); go_simp); try with_reducible rfl
      go_simp
      refine wpAnyH_take (i := 21) (v := ?_) rfl (by kernel_rfl) (by kernel_rfl) (by kernel_rfl) (fun _ _ _ h => h) (Or.inl ⟨by kernel_rfl, ?_⟩) (by assumption) ?_
      rotate_left
      · (intro w' hSw; (try dsimp only at hSw); go_simp); try with_reducible rfl
      go_simp
      refine wpAnyH_take (i := 22) (v := undef) rfl (by kernel_rfl) (by kernel_rfl) (by kernel_rfl) (fun _ _ _ h => h) (Or.inr ⟨by kernel_rfl, rfl⟩) (by assumption) ?_
      go_simp
      refine wpAnyH_take (i := 23) (v := undef) rfl (by kernel_rfl) (by kernel_rfl) (by kernel_rfl) (fun _ _ _ h => h) (Or.inr ⟨by kernel_rfl, rfl⟩) (by assumption) ?_
      go_simp
      refine wpAnyH_take (i := 24) (v := undef) rfl (by kernel_rfl) (by kernel_rfl) (by kernel_rfl) (fun _ _ _ h => h) (Or.inr ⟨by kernel_rfl, rfl⟩) (by assumption) ?_
      go_simp
      refine wpAnyH_take (i := 25) (v := undef) rfl (by kernel_rfl) (by kernel_rfl) (by kernel_rfl) (fun _ _ _ h => h) (Or.inr ⟨by kernel_rfl, rfl⟩) (by assumption) ?_
      go_simp
      refine wpAnyH_take (i := 26) (v := undef) rfl (by kernel_rfl) (by kernel_rfl) (by kernel_rfl) (fun _ _ _ h => h) (Or.inr ⟨by kernel_rfl, rfl⟩) (by assumption) ?_
      go_simp
      refine wpAnyH_take (i := 27) (v := ?_) rfl (by kernel_rfl) (by kernel_rfl) (by kernel_rfl) (fun _ _ _ h => h) (Or.inl ⟨by kernel_rfl, ?_⟩) (by assumption) ?_
      rotate_left
      · (intro w' hSw; (try dsimp only at hSw); go_simp); try with_reducible rfl
      go_simp
      refine wpAnyH_take (i := 28) (v := ?_) rfl (by kernel_rfl) (by kernel_rfl) (by kernel_rfl) (fun _ _ _ h => h) (Or.inl ⟨by kernel_rfl, ?_⟩) (by assumption) ?_
      rotate_left
      · (intro w' hSw; (try dsimp only at hSw); go_simp); try with_reducible rfl
      go_simp
      refine wpAnyH_done (by kernel_rfl) ?_ _
      go_wp2
      go_ret
      exact ⟨_, rfl, hbx.trans (hS1.2.2.2.2.mono hbx.size), fun h => by first | cases h | (simp at h; done)⟩
    · have d1 : decide ((0 : Int) < (n1 : Int)) = true := decide_eq_true (by omega)
      have d2 : decide (0 < n1) = true := decide_eq_true (by omega)
      have d3 : (0 : Int) < (n1 : Int) := by omega
      have HW0 := Lib.hid hw0
      clear hw0
      by_cases hz : n3 = 0
      · have z1 : ((n3 : Int) == 0) = true := beq_iff_eq.2 (by omega)
        have z2 : (n3 == 0) = true := beq_iff_eq.2 hz
        have HZ := Lib.hid hz
        clear hz
        by_cases hdz : d = 0
        · have y1 : decide ((0 : Int) < (d : Int)) = false := decide_eq_false (by omega)
          have y2 : decide (0 < d) = false := decide_eq_false (by omega)
          have y3 : ¬ (0 : Int) < (d : Int) := by omega
          clear hdz HIH
          refine wp_region_held_drew (S := fun w' => w'.cell? ⟨tg, 1, none⟩ = some (.slice na n0 nc) ∧ w'.cell? ⟨tg, 2, none⟩ = some (.slice wa n1 wc0) ∧ w'.cell? ⟨tg, 3, none⟩ = some (.slice da n3 dc) ∧ w'.cell? ⟨tg, 4, none⟩ = some (.slice pa n2 pc) ∧ Below wc.heap.size wc w') (by kernel_rfl) ?_ (fun hHeld => ?_)
          · exact ⟨c1, c2, c3, c4, (Below.refl _ _).drew⟩
          refine wpAnyH_take (i := 0) (v := ?_) rfl (by kernel_rfl) (by kernel_rfl) (by kernel_rfl) (fun _ _ _ h => h) (Or.inl ⟨by kernel_rfl, ?_⟩) (by assumption) ?_
          rotate_left
          · (intro w' hSw; (try dsimp only at hSw); go_simp); try with_reducible rfl
          go_simp
          refine wpAnyH_take (i := 1) (v := ?_) rfl (by kernel_rfl) (by kernel_rfl) (by kernel_rfl) (fun _ _ _ h => h) (Or.inl ⟨by kernel_rfl, ?_⟩) (by assumption) ?_
          rotate_left
          · (intro w' hSw; (try dsimp only at hSw); go_simp); try with_reducible rfl
          go_simp
          refine wpAnyH_ready (rs := [2]) (by kernel_rfl) (by simp) ?_
          refine AllReadyH.cons rfl (fun K hK => ?_) AllReadyH.nil
          go_simp
          refine (names36 _).mono ?_
          rintro e w1 ⟨g, rfl, e0, e1, e2, hb0⟩
          have hb1 : Below wc.heap.size wc w1 := ((Below.refl wc.heap.size wc).drew).trans hb0
          have hni := HNI.out _ hb1 g e0 e1 e2
          have hS1 : w1.cell? ⟨tg, 1, none⟩ = some (.slice na n0 nc) ∧ w1.cell? ⟨tg, 2, none⟩ = some (.slice wa n1 wc0) ∧ w1.cell? ⟨tg, 3, none⟩ = some (.slice da n3 dc) ∧ w1.cell? ⟨tg, 4, none⟩ = some (.slice pa n2 pc) ∧ Below wc.heap.size wc w1 := ⟨((hb1).cell (p := ⟨tg, 1, none⟩) htg).trans c1, ((hb1).cell (p := ⟨tg, 2, none⟩) htg).trans c2, ((hb1).cell (p := ⟨tg, 3, none⟩) htg).trans c3, ((hb1).cell (p := ⟨tg, 4, none⟩) htg).trans c4, hb1⟩
          refine hK.out _ _ ?_ (fun hHeld => ?_)
          · exact hS1
          clear hK K
          go_simp
          refine wpAnyH_ready (rs := [3]) (by kernel_rfl) (by simp) ?_
          refine AllReadyH.cons rfl (fun K hK => ?_) AllReadyH.nil
          go_simp
          refine hni.mono ?_
          rintro e w2 ⟨s, rfl, rfl, hs⟩
          have hs3 : s.toList.isEmpty = false := (by rcases hs with hs | hs; exact absurd HS.out hs.1; (have hq := hs.2; cases hl : s.toList with | nil => (rw [hl] at hq; cases hq) | cons _ _ => rfl))
          clear hs
          refine hK.out _ _ ?_ (fun hHeld => ?_)
          · exact hS1
          clear hK K
          go_simp
          refine wpAnyH_take (i := 4) (v := ?_) rfl (by kernel_rfl) (by kernel_rfl) (by kernel_rfl) (fun _ _ _ h => h) (Or.inl ⟨by kernel_rfl, ?_⟩) (by assumption) ?_
          rotate_left
          · (intro w' hSw; (try dsimp only at hSw); go_simp); try with_reducible rfl
          go_simp
          refine wpAnyH_take (i := 5) (v := ?_) rfl (by kernel_rfl) (by kernel_rfl) (by kernel_rfl) (fun _ _ _ h => h) (Or.inl ⟨by kernel_rfl, ?_⟩) (by assumption) ?_
          rotate_left
          · (intro w' hSw; (try dsimp only at hSw); go_simp); try with_reducible rfl
          go_simp
          refine wpAnyH_take (i := 6) (v := ?_) rfl (by kernel_rfl) (by kernel_rfl) (by kernel_rfl) (fun _ _ _ h => h) (Or.inl ⟨by kernel_rfl, ?_⟩) (by assumption) ?_
          rotate_left
          · (intro w' hSw; (try dsimp only at hSw); go_simp); try with_reducible rfl
          go_simp
          refine wpAnyH_take (i := 7) (v := ?_) rfl (by kernel_rfl) (by kernel_rfl) (by kernel_rfl) (fun _ _ _ h => h) (Or.inl ⟨by kernel_rfl, ?_⟩) (by assumption) ?_
          rotate_left
          · (intro w' hSw; (try dsimp only at hSw); go_simp); try with_reducible rfl
          go_simp
          refine wpAnyH_take (i := 8) (v := ?_) rfl (by kernel_rfl) (by kernel_rfl) (by kernel_rfl) (fun _ _ _ h => h) (Or.inl ⟨by kernel_rfl, ?_⟩) (by assumption) ?_
          rotate_left
          · (intro w' hSw; (try dsimp only at hSw); go_simp); try with_reducible rfl
          go_simp
          refine wpAnyH_take (i := 9) (v := ?_) rfl (by kernel_rfl) (by kernel_rfl) (by kernel_rfl) (fun _ _ _ h => h) (Or.inl ⟨by kernel_rfl, ?_⟩) (by assumption) ?_
          rotate_left
          · (intro w' hSw; (try dsimp only at hSw); go_simp); try with_reducible rfl
          go_simp
          refine wpAnyH_take (i := 10) (v := ?_) rfl (by kernel_rfl) (by kernel_rfl) (by kernel_rfl) (fun _ _ _ h => h) (Or.inl ⟨by kernel_rfl, ?_⟩) (by assumption) ?_
          rotate_left
          · (intro w' hSw; (try dsimp only at hSw); go_simp); try with_reducible rfl
          go_simp
          refine wpAnyH_take (i := 11) (v := ?_) rfl (by kernel_rfl) (by kernel_rfl) (by kernel_rfl) (fun _ _ _ h => h) (Or.inl ⟨by kernel_rfl, ?_⟩) (by assumption) ?_
          rotate_left
          · (intro w' hSw; (try dsimp only at hSw); go_simp); try with_reducible rfl
          go_simp
          refine wpAnyH_take (i := 12) (v := ?_) rfl (by kernel_rfl) (by kernel_rfl) (by kernel_rfl) (fun _ _ _ h => h) (Or.inl ⟨by kernel_rfl, ?_⟩) (by assumption) ?_
          rotate_left
          · (intro w' hSw; (try dsimp only at hSw); go_simp); try with_reducible rfl
          go_simp
          refine wpAnyH_take (i := 13) (v := ?_) rfl (by kernel_rfl) (by kernel_rfl) (by kernel_rfl) (fun _ _ _ h => h) (Or.inl ⟨by kernel_rfl, ?_⟩) (by assumption) ?_
          rotate_left
          · (intro w' hSw; (try dsimp only at hSw); go_simp); try with_reducible rfl
          go_simp
          refine wpAnyH_take (i := 14) (v := ?_) rfl (by kernel_rfl) (by kernel_rfl) (by kernel_rfl) (fun _ _ _ h => h) (Or.inl ⟨by kernel_rfl, ?_⟩) (by assumption) ?_
          rotate_left
          · (intro w' hSw; (try dsimp only at hSw); go_simp); try with_reducible rfl
          go_simp
          refine wpAnyH_take (i := 15) (v := ?_) rfl (by kernel_rfl) (by kernel_rfl) (by kernel_rfl) (fun _ _ _ h => h) (Or.inl ⟨by kernel_rfl, ?_⟩) (by assumption) ?_
          rotate_left
          · (intro w' hSw; (try dsimp only at hSw); go_simp); try with_reducible rfl
          go_simp
          refine wpAnyH_take (i := 16) (v := ?_) rfl (by kernel_rfl) (by kernel_rfl) (by kernel_rfl) (fun _ _ _ h => h) (Or.inl ⟨by kernel_rfl, ?_⟩) (by assumption) ?_
          rotate_left
          · (intro w' hSw; (try dsimp only at hSw); go_simp); try with_reducible rfl
          go_simp
          refine wpAnyH_take (i := 17) (v := ?_) rfl (by kernel_rfl) (by kernel_rfl) (by kernel_rfl) (fun _ _ _ h => h) (Or.inl ⟨by kernel_rfl, ?_⟩) (by assumption) ?_
          rotate_left
          · (intro w' hSw; (try dsimp only at hSw); go_simp); try with_reducible rfl
          go_simp
          refine wpAnyH_take (i := 18) (v := ?_) rfl (by kernel_rfl) (by kernel_rfl) (by kernel_rfl) (fun _ _ _ h => h) (Or.inl ⟨by kernel_rfl, ?_⟩) (by assumption) ?_
          rotate_left
          · (intro w' hSw; (try dsimp only at hSw); go_simp); try with_reducible rfl
          go_simp
          refine wpAnyH_take (i := 19) (v := ?_) rfl (by kernel_rfl) (by kernel_rfl) (by kernel_rfl) (fun _ _ _ h => h) (Or.inl ⟨by kernel_rfl, ?_⟩) (by assumption) ?_
          rotate_left
          · (intro w' hSw; (try dsimp only at hSw); go_simp); try with_reducible rfl
          go_simp
          refine wpAnyH_take (i := 20) (v := ?_) rfl (by kernel_rfl) (by kernel_rfl) (by kernel_rfl) (fun _ _ _ h => h) (Or.inl ⟨by kernel_rfl, ?_⟩) (by assumption) ?_
          rotate_left
          · (intro w' hSw; (try dsimp only at hSw); go_simp); try with_reducible rfl
          go_simp
          refine wpAnyH_take (i := 21) (v := ?_) rfl (by kernel_rfl) (by kernel_rfl) (by kernel_rfl) (fun _ _ _ h => h) (Or.inl ⟨by kernel_rfl, ?_⟩) (by assumption) ?_
          rotate_left
          · (intro w' hSw; (try dsimp only at hSw); go_simp); try with_reducible rfl
          go_simp
          refine wpAnyH_take (i := 22) (v := undef) rfl (by kernel_rfl) (by kernel_rfl) (by kernel_rfl) (fun _ _ _ h => h) (Or.inr ⟨by kernel_rfl, rfl⟩) (by assumption) ?_
          go_simp
          refine wpAnyH_take (i := 23) (v := undef) rfl (by kernel_rfl) (by kernel_rfl) (by kernel_rfl) (fun _ _ _ h => h) (Or.inr ⟨by kernel_rfl, rfl⟩) (by assumption) ?_
          go_simp
          refine wpAnyH_take (i := 24) (v := undef) rfl (by kernel_rfl) (by kernel_rfl) (by kernel_rfl) (fun _ _ _ h => h) (Or.inr ⟨by kernel_rfl, rfl⟩) (by assumption) ?_
          go_simp
          refine wpAnyH_take (i := 25) (v := undef) rfl (by kernel_rfl) (by kernel_rfl) (by kernel_rfl) (fun _ _ _ h => h) (Or.inr ⟨by kernel_rfl, rfl⟩) (by assumption) ?_
          go_simp
          refine wpAnyH_take (i := 26) (v := undef) rfl (by kernel_rfl) (by kernel_rfl) (by kernel_rfl) (fun _ _ _ h => h) (Or.inr ⟨by kernel_rfl, rfl⟩) (by assumption) ?_
          go_simp
          refine wpAnyH_take (i := 27) (v := ?_) rfl (by kernel_rfl) (by kernel_rfl) (by kernel_rfl) (fun _ _ _ h => h) (Or.inl ⟨by kernel_rfl, ?_⟩) (by assumption) ?_
          rotate_left
          · (intro w' hSw; (try dsimp only at hSw); go_simp); try with_reducible rfl
          go_simp
          refine wpAnyH_take (i := 28) (v := ?_) rfl (by kernel_rfl) (by kernel_rfl) (by kernel_rfl) (fun _ _ _ h => h) (Or.inl ⟨by kernel_rfl, ?_⟩) (by assumption) ?_
          rotate_left
          · (intro w' hSw; (try dsimp only at hSw); go_simp); try with_reducible rfl
          go_simp
          refine wpAnyH_done (by kernel_rfl) ?_ _
          go_wp2
          go_ret
          exact ⟨_, rfl, hbx.trans (hS1.2.2.2.2.mono hbx.size), fun h => by first | cases h | (simp at h; done)⟩
        · have y1 : decide ((0 : Int) < (d : Int)) = true := decide_eq_true (by omega)
          have y2 : decide (0 < d) = true := decide_eq_true (by omega)
          have y3 : (0 : Int) < (d : Int) := by omega
          obtain ⟨d', hdd⟩ : ∃ d', d = d' + 1 := ⟨d - 1, by omega⟩
          have s2 : IntKind.i64.wrap ((d : Int) - 1) = (d' : Int) := by rw [IntWalk.i64_in _ (by omega)]; omega
          have IH := HIH.out d' hdd
          have HR := Lib.hid (show PartsOK d' p.parts → PartOK d p from fun h => .inr (.inr ⟨⟨by unfold kBlock; rw [← HK.out]; exact HKR.out, HS.out, fun e => HW0.out (HN.out.1.trans (by rw [e]; rfl)), List.eq_nil_of_length_eq_zero (HN.out.2.2.1.symm.trans HZ.out)⟩, d', hdd, h⟩))
          clear hdz hdd
          refine wp_region_held_drew (S := fun w' => w'.cell? ⟨tg, 1, none⟩ = some (.slice na n0 nc) ∧ w'.cell? ⟨tg, 2, none⟩ = some (.slice wa n1 wc0) ∧ w'.cell? ⟨tg, 3, none⟩ = some (.slice da n3 dc) ∧ w'.cell? ⟨tg, 4, none⟩ = some (.slice pa n2 pc) ∧ Below wc.heap.size wc w') (by kernel_rfl) ?_ (fun hHeld => ?_)
          · exact ⟨c1, c2, c3, c4, (Below.refl _ _).drew⟩
          refine wpAnyH_take (i := 0) (v := ?_) rfl (by kernel_rfl) (by kernel_rfl) (by kernel_rfl) (fun _ _ _ h => h) (Or.inl ⟨by kernel_rfl, ?_⟩) (by assumption) ?_
          rotate_left
          · (intro w' hSw; (try dsimp only at hSw); go_simp); try with_reducible rfl
          go_simp
          refine wpAnyH_take (i := 1) (v := ?_) rfl (by kernel_rfl) (by kernel_rfl) (by kernel_rfl) (fun _ _ _ h => h) (Or.inl ⟨by kernel_rfl, ?_⟩) (by assumption) ?_
          rotate_left
          · (intro w' hSw; (try dsimp only at hSw); go_simp); try with_reducible rfl
          go_simp
          refine wpAnyH_ready (rs := [2]) (by kernel_rfl) (by simp) ?_
          refine AllReadyH.cons rfl (fun K hK => ?_) AllReadyH.nil
          go_simp
          refine (names36 _).mono ?_
          rintro e w1 ⟨g, rfl, e0, e1, e2, hb0⟩
          have hb1 : Below wc.heap.size wc w1 := ((Below.refl wc.heap.size wc).drew).trans hb0
          have hni := HNI.out _ hb1 g e0 e1 e2
          have hS1 : w1.cell? ⟨tg, 1, none⟩ = some (.slice na n0 nc) ∧ w1.cell? ⟨tg, 2, none⟩ = some (.slice wa n1 wc0) ∧ w1.cell? ⟨tg, 3, none⟩ = some (.slice da n3 dc) ∧ w1.cell? ⟨tg, 4, none⟩ = some (.slice pa n2 pc) ∧ Below wc.heap.size wc w1 := ⟨((hb1).cell (p := ⟨tg, 1, none⟩) htg).trans c1, ((hb1).cell (p := ⟨tg, 2, none⟩) htg).trans c2, ((hb1).cell (p := ⟨tg, 3, none⟩) htg).trans c3, ((hb1).cell (p := ⟨tg, 4, none⟩) htg).trans c4, hb1⟩
          refine hK.out _ _ ?_ (fun hHeld => ?_)
          · exact hS1
          clear hK K
          go_simp
          refine wpAnyH_ready (rs := [3]) (by kernel_rfl) (by simp) ?_
          refine AllReadyH.cons rfl (fun K hK => ?_) AllReadyH.nil
          go_simp
          refine hni.mono ?_
          rintro e w2 ⟨s, rfl, rfl, hs⟩
          have hs3 : s.toList.isEmpty = false := (by rcases hs with hs | hs; exact absurd HS.out hs.1; (have hq := hs.2; cases hl : s.toList with | nil => (rw [hl] at hq; cases hq) | cons _ _ => rfl))
          clear hs
          refine hK.out _ _ ?_ (fun hHeld => ?_)
          · exact hS1
          clear hK K
          go_simp
          refine wpAnyH_take (i := 4) (v := ?_) rfl (by kernel_rfl) (by kernel_rfl) (by kernel_rfl) (fun _ _ _ h => h) (Or.inl ⟨by kernel_rfl, ?_⟩) (by assumption) ?_
          rotate_left
          · (intro w' hSw; (try dsimp only at hSw); go_simp); try with_reducible rfl
          go_simp
          refine wpAnyH_take (i := 5) (v := ?_) rfl (by kernel_rfl) (by kernel_rfl) (by kernel_rfl) (fun _ _ _ h => h) (Or.inl ⟨by kernel_rfl, ?_⟩) (by assumption) ?_
          rotate_left
          · (intro w' hSw; (try dsimp only at hSw); go_simp); try with_reducible rfl
          go_simp
          refine wpAnyH_take (i := 6) (v := ?_) rfl (by kernel_rfl) (by kernel_rfl) (by kernel_rfl) (fun _ _ _ h => h) (Or.inl ⟨by kernel_rfl, ?_⟩) (by assumption) ?_
          rotate_left
          · (intro w' hSw; (try dsimp only at hSw); go_simp); try with_reducible rfl
          go_simp
          refine wpAnyH_take (i := 7) (v := ?_) rfl (by kernel_rfl) (by kernel_rfl) (by kernel_rfl) (fun _ _ _ h => h) (Or.inl ⟨by kernel_rfl, ?_⟩) (by assumption) ?_
          rotate_left
          · (intro w' hSw; (try dsimp only at hSw); go_simp); try with_reducible rfl
          go_simp
          refine wpAnyH_take (i := 8) (v := ?_) rfl (by kernel_rfl) (by kernel_rfl) (by kernel_rfl) (fun _ _ _ h => h) (Or.inl ⟨by kernel_rfl, ?_⟩) (by assumption) ?_
          rotate_left
          · (intro w' hSw; (try dsimp only at hSw); go_simp); try with_reducible rfl
          go_simp
          refine wpAnyH_take (i := 9) (v := ?_) rfl (by kernel_rfl) (by kernel_rfl) (by kernel_rfl) (fun _ _ _ h => h) (Or.inl ⟨by kernel_rfl, ?_⟩) (by assumption) ?_
          rotate_left
          · (intro w' hSw; (try dsimp only at hSw); go_simp); try with_reducible rfl
          go_simp
          refine wpAnyH_take (i := 10) (v := ?_) rfl (by kernel_rfl) (by kernel_rfl) (by kernel_rfl) (fun _ _ _ h => h) (Or.inl ⟨by kernel_rfl, ?_⟩) (by assumption) ?_
          rotate_left
          · (intro w' hSw; (try dsimp only at hSw); go_simp); try with_reducible rfl
          go_simp
          refine wpAnyH_take (i := 11) (v := ?_) rfl (by kernel_rfl) (by kernel_rfl) (by kernel_rfl) (fun _ _ _ h => h) (Or.inl ⟨by kernel_rfl, ?_⟩) (by assumption) ?_
          rotate_left
          · (intro w' hSw; (try dsimp only at hSw); go_simp); try with_reducible rfl
          go_simp
          refine wpAnyH_take (i := 12) (v := ?_) rfl (by kernel_rfl) (by kernel_rfl) (by kernel_rfl) (fun _ _ _ h => h) (Or.inl ⟨by kernel_rfl, ?_⟩) (by assumption) ?_
          rotate_left
          · (intro w' hSw; (try dsimp only at hSw); go_simp); try with_reducible rfl
          go_simp
          refine wpAnyH_take (i := 13) (v := ?_) rfl (by kernel_rfl) (by kernel_rfl) (by kernel_rfl) (fun _ _ _ h => h) (Or.inl ⟨by kernel_rfl, ?_⟩) (by assumption) ?_
          rotate_left
          · (intro w' hSw; (try dsimp only at hSw); go_simp); try with_reducible rfl
          go_simp
          refine wpAnyH_take (i := 14) (v := ?_) rfl (by kernel_rfl) (by kernel_rfl) (by kernel_rfl) (fun _ _ _ h => h) (Or.inl ⟨by kernel_rfl, ?_⟩) (by assumption) ?_
          rotate_left
          · (intro w' hSw; (try dsimp only at hSw); go_simp); try with_reducible rfl
          go_simp
          refine wpAnyH_take (i := 15) (v := ?_) rfl (by kernel_rfl) (by kernel_rfl) (by kernel_rfl) (fun _ _ _ h => h) (Or.inl ⟨by kernel_rfl, ?_⟩) (by assumption) ?_
          rotate_left
          · (intro w' hSw; (try dsimp only at hSw); go_simp); try with_reducible rfl
          go_simp
          refine wpAnyH_take (i := 16) (v := ?_) rfl (by kernel_rfl) (by kernel_rfl) (by kernel_rfl) (fun _ _ _ h => h) (Or.inl ⟨by kernel_rfl, ?_⟩) (by assumption) ?_
          rotate_left
          · (intro w' hSw; (try dsimp only at hSw); go_simp); try with_reducible rfl
          go_simp
          refine wpAnyH_take (i := 17) (v := ?_) rfl (by kernel_rfl) (by kernel_rfl) (by kernel_rfl) (fun _ _ _ h => h) (Or.inl ⟨by kernel_rfl, ?_⟩) (by assumption) ?_
          rotate_left
          · (intro w' hSw; (try dsimp only at hSw); go_simp); try with_reducible rfl
          go_simp
          refine wpAnyH_take (i := 18) (v := ?_) rfl (by kernel_rfl) (by kernel_rfl) (by kernel_rfl) (fun _ _ _ h => h) (Or.inl ⟨by kernel_rfl, ?_⟩) (by assumption) ?_
          rotate_left
          · (intro w' hSw; (try dsimp only at hSw); go_simp); try with_reducible rfl
          go_simp
          refine wpAnyH_take (i := 19) (v := ?_) rfl (by kernel_rfl) (by kernel_rfl) (by kernel_rfl) (fun _ _ _ h => h) (Or.inl ⟨by kernel_rfl, ?_⟩) (by assumption) ?_
          rotate_left
          · (intro w' hSw; (try dsimp only at hSw); go_simp); try with_reducible rfl
          go_simp
          refine wpAnyH_take (i := 20) (v := ?_) rfl (by kernel_rfl) (by kernel_rfl) (by kernel_rfl) (fun _ _ _ h => h) (Or.inl ⟨by kernel_rfl, ?_⟩) (by assumption) ?_
          rotate_left
          · (intro w' hSw; (try dsimp only at hSw); go_simp); try with_reducible rfl
          go_simp
          refine wpAnyH_take (i := 21) (v := ?_) rfl (by kernel_rfl) (by kernel_rfl) (by kernel_rfl) (fun _ _ _ h => h) (Or.inl ⟨by kernel_rfl, ?_⟩) (by assumption) ?_
          rotate_left
          · (intro w' hSw; (try dsimp only at hSw); go_simp); try with_reducible rfl
          go_simp
          refine wpAnyH_take (i := 22) (v := ?_) rfl (by kernel_rfl) (by kernel_rfl) (by kernel_rfl) (fun _ _ _ h => h) (Or.inl ⟨by kernel_rfl, ?_⟩) (by assumption) ?_
          rotate_left
          · (intro w' hSw; (try dsimp only at hSw); go_simp); try with_reducible rfl
          go_simp
          refine wpAnyH_take (i := 23) (v := ?_) rfl (by kernel_rfl) (by kernel_rfl) (by kernel_rfl) (fun _ _ _ h => h) (Or.inl ⟨by kernel_rfl, ?_⟩) (by assumption) ?_
          rotate_left
          · (intro w' hSw; (try dsimp only at hSw); go_simp); try with_reducible rfl
          go_simp
          refine wpAnyH_take (i := 24) (v := ?_) rfl (by kernel_rfl) (by kernel_rfl) (by kernel_rfl) (fun _ _ _ h => h) (Or.inl ⟨by kernel_rfl, ?_⟩) (by assumption) ?_
          rotate_left
          · (intro w' hSw; (try dsimp only at hSw); go_simp); try with_reducible rfl
          go_simp
          refine wpAnyH_take (i := 25) (v := ?_) rfl (by kernel_rfl) (by kernel_rfl) (by kernel_rfl) (fun _ _ _ h => h) (Or.inl ⟨by kernel_rfl, ?_⟩) (by assumption) ?_
          rotate_left
          · (intro w' hSw; (try dsimp only at hSw); go_simp); try with_reducible rfl
          go_simp
          refine wpAnyH_ready (rs := [26]) (by kernel_rfl) (by simp) ?_
          refine AllReadyH.cons rfl (fun K hK => ?_) AllReadyH.nil
          go_simp
          refine (IH _ _ _ (HPM.out _ hS1.2.2.2.2) (HUT.out _ hS1.2.2.2.2)).mono ?_
          rintro e w3 ⟨r3, rfl, hb3, hr3⟩
          have HR3 := Lib.hid hr3
          clear hr3
          have hb13 : Below wc.heap.size wc w3 := hS1.2.2.2.2.trans (hb3.mono hS1.2.2.2.2.size)
          have hS3 : w3.cell? ⟨tg, 1, none⟩ = some (.slice na n0 nc) ∧ w3.cell? ⟨tg, 2, none⟩ = some (.slice wa n1 wc0) ∧ w3.cell? ⟨tg, 3, none⟩ = some (.slice da n3 dc) ∧ w3.cell? ⟨tg, 4, none⟩ = some (.slice pa n2 pc) ∧ Below wc.heap.size wc w3 := ⟨((hb13).cell (p := ⟨tg, 1, none⟩) htg).trans c1, ((hb13).cell (p := ⟨tg, 2, none⟩) htg).trans c2, ((hb13).cell (p := ⟨tg, 3, none⟩) htg).trans c3, ((hb13).cell (p := ⟨tg, 4, none⟩) htg).trans c4, hb13⟩
          refine hK.out _ _ ?_ (fun hHeld => ?_)
          · exact hS3
          clear hK K
          go_simp
          refine wpAnyH_take (i := 27) (v := ?_) rfl (by kernel_rfl) (by kernel_rfl) (by kernel_rfl) (fun _ _ _ h => h) (Or.inl ⟨by kernel_rfl, ?_⟩) (by assumption) ?_
          rotate_left
          · (intro w' hSw; (try dsimp only at hSw); go_simp); try with_reducible rfl
          go_simp
          refine wpAnyH_take (i := 28) (v := ?_) rfl (by kernel_rfl) (by kernel_rfl) (by kernel_rfl) (fun _ _ _ h => h) (Or.inl ⟨by kernel_rfl, ?_⟩) (by assumption) ?_
          rotate_left
          · (intro w' hSw; (try dsimp only at hSw); go_simp); try with_reducible rfl
          go_simp
          refine wpAnyH_done (by kernel_rfl) ?_ _
          go_wp2
          go_ret
          exact ⟨_, rfl, hbx.trans (hb13.mono hbx.size), fun h => HR.out (HR3.out h)⟩
      · have z1 : ((n3 : Int) == 0) = false := beq_eq_false_iff_ne.2 (by omega)
        have z2 : (n3 == 0) = false := beq_eq_false_iff_ne.2 hz
        have z3 : ¬ (n3 : Int) = 0 := by omega
        clear HIH
        refine wp_region_held_drew (S := fun w' => w'.cell? ⟨tg, 1, none⟩ = some (.slice na n0 nc) ∧ w'.cell? ⟨tg, 2, none⟩ = some (.slice wa n1 wc0) ∧ w'.cell? ⟨tg, 3, none⟩ = some (.slice da n3 dc) ∧ w'.cell? ⟨tg, 4, none⟩ = some (.slice pa n2 pc) ∧ Below wc.heap.size wc w') (by kernel_rfl) ?_ (fun hHeld => ?_)
        · exact ⟨c1, c2, c3, c4, (Below.refl _ _).drew⟩
        refine wpAnyH_take (i := 0) (v := ?_) rfl (by kernel_rfl) (by kernel_rfl) (by kernel_rfl) (fun _ _ _ h => h) (Or.inl ⟨by kernel_rfl, ?_⟩) (by assumption) ?_
        rotate_left
        · (intro w' hSw; (try dsimp only at hSw); go_simp); try with_reducible rfl
        go_simp
        refine wpAnyH_take (i := 1) (v := ?_) rfl (by kernel_rfl) (by kernel_rfl) (by kernel_rfl) (fun _ _ _ h => h) (Or.inl ⟨by kernel_rfl, ?_⟩) (by assumption) ?_
        rotate_left
        · (intro w' hSw; (try dsimp only at hSw); go_simp); try with_reducible rfl
        go_simp
        refine wpAnyH_ready (rs := [2]) (by kernel_rfl) (by simp) ?_
        refine AllReadyH.cons rfl (fun K hK => ?_) AllReadyH.nil
        go_simp
        refine (names36 _).mono ?_
        rintro e w1 ⟨g, rfl, e0, e1, e2, hb0⟩
        have hb1 : Below wc.heap.size wc w1 := ((Below.refl wc.heap.size wc).drew).trans hb0
        have hni := HNI.out _ hb1 g e0 e1 e2
        have hS1 : w1.cell? ⟨tg, 1, none⟩ = some (.slice na n0 nc) ∧ w1.cell? ⟨tg, 2, none⟩ = some (.slice wa n1 wc0) ∧ w1.cell? ⟨tg, 3, none⟩ = some (.slice da n3 dc) ∧ w1.cell? ⟨tg, 4, none⟩ = some (.slice pa n2 pc) ∧ Below wc.heap.size wc w1 := ⟨((hb1).cell (p := ⟨tg, 1, none⟩) htg).trans c1, ((hb1).cell (p := ⟨tg, 2, none⟩) htg).trans c2, ((hb1).cell (p := ⟨tg, 3, none⟩) htg).trans c3, ((hb1).cell (p := ⟨tg, 4, none⟩) htg).trans c4, hb1⟩
        refine hK.out _ _ ?_ (fun hHeld => ?_)
        · exact hS1
        clear hK K
        go_simp
        refine wpAnyH_ready (rs := [3]) (by kernel_rfl) (by simp) ?_
        refine AllReadyH.cons rfl (fun K hK => ?_) AllReadyH.nil
        go_simp
        refine hni.mono ?_
        rintro e w2 ⟨s, rfl, rfl, hs⟩
        have hs3 : s.toList.isEmpty = false := (by rcases hs with hs | hs; exact absurd HS.out hs.1; (have hq := hs.2; cases hl : s.toList with | nil => (rw [hl] at hq; cases hq) | cons _ _ => rfl))
        clear hs
        refine hK.out _ _ ?_ (fun hHeld => ?_)
        · exact hS1
        clear hK K
        go_simp
        refine wpAnyH_take (i := 4) (v := ?_) rfl (by kernel_rfl) (by kernel_rfl) (by kernel_rfl) (fun _ _ _ h => h) (Or.inl ⟨by kernel_rfl, ?_⟩) (by assumption) ?_
        rotate_left
        · (intro w' hSw; (try dsimp only at hSw); go_simp); try with_reducible rfl
        go_simp
        refine wpAnyH_take (i := 5) (v := ?_) rfl (by kernel_rfl) (by kernel_rfl) (by kernel_rfl) (fun _ _ _ h => h) (Or.inl ⟨by kernel_rfl, ?_⟩) (by assumption) ?_
        rotate_left
        · (intro w' hSw; (try dsimp only at hSw); go_simp); try with_reducible rfl
        go_simp
        refine wpAnyH_take (i := 6) (v := ?_) rfl (by kernel_rfl) (by kernel_rfl) (by kernel_rfl) (fun _ _ _ h => h) (Or.inl ⟨by kernel_rfl, ?_⟩) (by assumption) ?_
        rotate_left
        · (intro w' hSw; (try dsimp only at hSw); go_simp); try with_reducible rfl
        go_simp
        refine wpAnyH_take (i := 7) (v := ?_) rfl (by kernel_rfl) (by kernel_rfl) (by kernel_rfl) (fun _ _ _ h => h) (Or.inl ⟨by kernel_rfl, ?_⟩) (by assumption) ?_
        rotate_left
        · (intro w' hSw; (try dsimp only at hSw); go_simp); try with_reducible rfl
        go_simp
        refine wpAnyH_take (i := 8) (v := ?_) rfl (by kernel_rfl) (by kernel_rfl) (by kernel_rfl) (fun _ _ _ h => h) (Or.inl ⟨by kernel_rfl, ?_⟩) (by assumption) ?_
        rotate_left
        · (intro w' hSw; (try dsimp only at hSw); go_simp); try with_reducible rfl
        go_simp
        refine wpAnyH_take (i := 9) (v := ?_) rfl (by kernel_rfl) (by kernel_rfl) (by kernel_rfl) (fun _ _ _ h => h) (Or.inl ⟨by kernel_rfl, ?_⟩) (by assumption) ?_
        rotate_left
        · (intro w' hSw; (try dsimp only at hSw); go_simp); try with_reducible rfl
        go_simp
        refine wpAnyH_take (i := 10) (v := ?_) rfl (by kernel_rfl) (by kernel_rfl) (by kernel_rfl) (fun _ _ _ h => h) (Or.inl ⟨by kernel_rfl, ?_⟩) (by assumption) ?_
        rotate_left
        · (intro w' hSw; (try dsimp only at hSw); go_simp); try with_reducible rfl
        go_simp
        refine wpAnyH_take (i := 11) (v := ?_) rfl (by kernel_rfl) (by kernel_rfl) (by kernel_rfl) (fun _ _ _ h => h) (Or.inl ⟨by kernel_rfl, ?_⟩) (by assumption) ?_
        rotate_left
        · (intro w' hSw; (try dsimp only at hSw); go_simp); try with_reducible rfl
        go_simp
        refine wpAnyH_take (i := 12) (v := ?_) rfl (by kernel_rfl) (by kernel_rfl) (by kernel_rfl) (fun _ _ _ h => h) (Or.inl ⟨by kernel_rfl, ?_⟩) (by assumption) ?_
        rotate_left
        · (intro w' hSw; (try dsimp only at hSw); go_simp); try with_reducible rfl
        go_simp
        refine wpAnyH_take (i := 13) (v := ?_) rfl (by kernel_rfl) (by kernel_rfl) (by kernel_rfl) (fun _ _ _ h => h) (Or.inl ⟨by kernel_rfl, ?_⟩) (by assumption) ?_
        rotate_left
        · (intro w' hSw; (try dsimp only at hSw); go_simp); try with_reducible rfl
        go_simp
        refine wpAnyH_take (i := 14) (v := ?_) rfl (by kernel_rfl) (by kernel_rfl) (by kernel_rfl) (fun _ _ _ h => h) (Or.inl ⟨by kernel_rfl, ?_⟩) (by assumption) ?_
        rotate_left
        · (intro w' hSw; (try dsimp only at hSw); go_simp); try with_reducible rfl
        go_simp
        refine wpAnyH_take (i := 15) (v := ?_) rfl (by kernel_rfl) (by kernel_rfl) (by kernel_rfl) (fun _ _ _ h => h) (Or.inl ⟨by kernel_rfl, ?_⟩) (by assumption) ?_
        rotate_left
        · (intro w' hSw; (try dsimp only at hSw); go_simp); try with_reducible rfl
        go_simp
        refine wpAnyH_take (i := 16) (v := ?_) rfl (by kernel_rfl) (by kernel_rfl) (by kernel_rfl) (fun _ _ _ h => h) (Or.inl ⟨by kernel_rfl, ?_⟩) (by assumption) ?_
        rotate_left
        · (intro w' hSw; (try dsimp only at hSw); go_simp); try with_reducible rfl
        go_simp
        refine wpAnyH_take (i := 17) (v := ?_) rfl (by kernel_rfl) (by kernel_rfl) (by kernel_rfl) (fun _ _ _ h => h) (Or.inl ⟨by kernel_rfl, ?_⟩) (by assumption) ?_
        rotate_left
        · (intro w' hSw; (try dsimp only at hSw); go_simp); try with_reducible rfl
        go_simp
        refine wpAnyH_take (i := 18) (v := undef) rfl (by kernel_rfl) (by kernel_rfl) (by kernel_rfl) (fun _ _ _ h => h) (Or.inr ⟨by kernel_rfl, rfl⟩) (by assumption) ?_
        go_simp
        refine wpAnyH_take (i := 19) (v := undef) rfl (by kernel_rfl) (by kernel_rfl) (by kernel_rfl) (fun _ _ _ h => h) (Or.inr ⟨by kernel_rfl, rfl⟩) (by assumption) ?_
        go_simp
        refine wpAnyH_take (i := 20) (v := ?_) rfl (by kernel_rfl) (by kernel_rfl) (by kernel_rfl) (fun _ _ _ h => h) (Or.inl ⟨by kernel_rfl, ?_⟩) (by assumption) ?_
        rotate_left
        · (intro w' hSw; (try dsimp only at hSw); go_simp); try with_reducible rfl
        go_simp
        refine wpAnyH_take (i := 21) (v := ?_) rfl (by kernel_rfl) (by kernel_rfl) (by kernel_rfl) (fun _ _ _ h => h) (Or.inl ⟨by kernel_rfl, ?_⟩) (by assumption) ?_
        rotate_left
        · (intro w' hSw; (try dsimp only at hSw); go_simp); try with_reducible rfl
        go_simp
        refine wpAnyH_take (i := 22) (v := undef) rfl (by kernel_rfl) (by kernel_rfl) (by kernel_rfl) (fun _ _ _ h => h) (Or.inr ⟨by kernel_rfl, rfl⟩) (by assumption) ?_
        go_simp
        refine wpAnyH_take (i := 23) (v := undef) rfl (by kernel_rfl) (by kernel_rfl) (by kernel_rfl) (fun _ _ _ h => h) (Or.inr ⟨by kernel_rfl, rfl⟩) (by assumption) ?_
        go_simp
        refine wpAnyH_take (i := 24) (v := undef) rfl (by kernel_rfl) (by kernel_rfl) (by kernel_rfl) (fun _ _ _ h => h) (Or.inr ⟨by kernel_rfl, rfl⟩) (by assumption) ?_
        go_simp
        refine wpAnyH_take (i := 25) (v := undef) rfl (by kernel_rfl) (by kernel_rfl) (by kernel_rfl) (fun _ _ _ h => h) (Or.inr ⟨by kernel_rfl, rfl⟩) (by assumption) ?_
        go_simp
        refine wpAnyH_take (i := 26) (v := undef) rfl (by kernel_rfl) (by kernel_rfl) (by kernel_rfl) (fun _ _ _ h => h) (Or.inr ⟨by kernel_rfl, rfl⟩) (by assumption) ?_
        go_simp
        refine wpAnyH_take (i := 27) (v := ?_) rfl (by kernel_rfl) (by kernel_rfl) (by kernel_rfl) (fun _ _ _ h => h) (Or.inl ⟨by kernel_rfl, ?_⟩) (by assumption) ?_
        rotate_left
        · (intro w' hSw; (try dsimp only at hSw); go_simp); try with_reducible rfl
        go_simp
        refine wpAnyH_take (i := 28) (v := ?_) rfl (by kernel_rfl) (by kernel_rfl) (by kernel_rfl) (fun _ _ _ h => h) (Or.inl ⟨by kernel_rfl, ?_⟩) (by assumption) ?_
        rotate_left
        · (intro w' hSw; (try dsimp only at hSw); go_simp); try with_reducible rfl
        go_simp
        refine wpAnyH_done (by kernel_rfl) ?_ _
        go_wp2
        go_ret
        exact ⟨_, rfl, hbx.trans (hS1.2.2.2.2.mono hbx.size), fun h => by first | cases h | (simp at h; done)⟩
  · have HS := Lib.hid hs
    clear hs
    refine wp_region_held_drew (S := fun w' => w'.cell? ⟨tg, 1, none⟩ = some (.slice na n0 nc) ∧ w'.cell? ⟨tg, 2, none⟩ = some (.slice wa n1 wc0) ∧ w'.cell? ⟨tg, 3, none⟩ = some (.slice da n3 dc) ∧ w'.cell? ⟨tg, 4, none⟩ = some (.slice pa n2 pc) ∧ Below wc.heap.size wc w') (by kernel_rfl) ?_ (fun hHeld => ?_)
    · exact ⟨c1, c2, c3, c4, (Below.refl _ _).drew⟩
    refine wpAnyH_take (i := 0) (v := ?_) rfl (by kernel_rfl) (by kernel_rfl) (by kernel_rfl) (fun _ _ _ h => h) (Or.inl ⟨by kernel_rfl, ?_⟩) (by assumption) ?_
    rotate_left
    · (intro w' hSw; (try dsimp only at hSw); go_simp); try with_reducible rfl
    go_simp
    refine wpAnyH_take (i := 1) (v := ?_) rfl (by kernel_rfl) (by kernel_rfl) (by kernel_rfl) (fun _ _ _ h => h) (Or.inl ⟨by kernel_rfl, ?_⟩) (by assumption) ?_
    rotate_left
    · (intro w' hSw; (try dsimp only at hSw); go_simp); try with_reducible rfl
    go_simp
    refine wpAnyH_ready (rs := [2]) (by kernel_rfl) (by simp) ?_
    refine AllReadyH.cons rfl (fun K hK => ?_) AllReadyH.nil
    go_simp
    refine (names36 _).mono ?_
    rintro e w1 ⟨g, rfl, e0, e1, e2, hb0⟩
    have hb1 : Below wc.heap.size wc w1 := ((Below.refl wc.heap.size wc).drew).trans hb0
    have hni := HNI.out _ hb1 g e0 e1 e2
    have hS1 : w1.cell? ⟨tg, 1, none⟩ = some (.slice na n0 nc) ∧ w1.cell? ⟨tg, 2, none⟩ = some (.slice wa n1 wc0) ∧ w1.cell? ⟨tg, 3, none⟩ = some (.slice da n3 dc) ∧ w1.cell? ⟨tg, 4, none⟩ = some (.slice pa n2 pc) ∧ Below wc.heap.size wc w1 := ⟨((hb1).cell (p := ⟨tg, 1, none⟩) htg).trans c1, ((hb1).cell (p := ⟨tg, 2, none⟩) htg).trans c2, ((hb1).cell (p := ⟨tg, 3, none⟩) htg).trans c3, ((hb1).cell (p := ⟨tg, 4, none⟩) htg).trans c4, hb1⟩
    refine hK.out _ _ ?_ (fun hHeld => ?_)
    · exact hS1
    clear hK K
    go_simp
    refine wpAnyH_ready (rs := [3]) (by kernel_rfl) (by simp) ?_
    refine AllReadyH.cons rfl (fun K hK => ?_) AllReadyH.nil
    go_simp
    refine hni.mono ?_
    rintro e w2 ⟨s, rfl, rfl, hs⟩
    have hs3 : s.toList.isEmpty = true := (by rcases hs with hs | hs; (rw [hs.2]; decide +kernel); exact absurd hs.1 HS.out)
    clear hs
    refine hK.out _ _ ?_ (fun hHeld => ?_)
    · exact hS1
    clear hK K
    go_simp
    refine wpAnyH_take (i := 4) (v := ?_) rfl (by kernel_rfl) (by kernel_rfl) (by kernel_rfl) (fun _ _ _ h => h) (Or.inl ⟨by kernel_rfl, ?_⟩) (by assumption) ?_
    rotate_left
    · (intro w' hSw; (try dsimp only at hSw); go_simp); try with_reducible rfl
    go_simp
    refine wpAnyH_take (i := 5) (v := ?_) rfl (by kernel_rfl) (by kernel_rfl) (by kernel_rfl) (fun _ _ _ h => h) (Or.inl ⟨by kernel_rfl, ?_⟩) (by assumption) ?_
    rotate_left
    · (intro w' hSw; (try dsimp only at hSw); go_simp); try with_reducible rfl
    go_simp
    refine wpAnyH_take (i := 6) (v := undef) rfl (by kernel_rfl) (by kernel_rfl) (by kernel_rfl) (fun _ _ _ h => h) (Or.inr ⟨by kernel_rfl, rfl⟩) (by assumption) ?_
    go_simp
    refine wpAnyH_take (i := 7) (v := undef) rfl (by kernel_rfl) (by kernel_rfl) (by kernel_rfl) (fun _ _ _ h => h) (Or.inr ⟨by kernel_rfl, rfl⟩) (by assumption) ?_
    go_simp
    refine wpAnyH_take (i := 8) (v := undef) rfl (by kernel_rfl) (by kernel_rfl) (by kernel_rfl) (fun _ _ _ h => h) (Or.inr ⟨by kernel_rfl, rfl⟩) (by assumption) ?_
    go_simp
    refine wpAnyH_take (i := 9) (v := undef) rfl (by kernel_rfl) (by kernel_rfl) (by kernel_rfl) (fun _ _ _ h => h) (Or.inr ⟨by kernel_rfl, rfl⟩) (by assumption) ?_
    go_simp
    refine wpAnyH_take (i := 10) (v := ?_) rfl (by kernel_rfl) (by kernel_rfl) (by kernel_rfl) (fun _ _ _ h => h) (Or.inl ⟨by kernel_rfl, ?_⟩) (by assumption) ?_
    rotate_left
    · (intro w' hSw; (try dsimp only at hSw); go_simp); try with_reducible rfl
    go_simp
    refine wpAnyH_take (i := 11) (v := ?_) rfl (by kernel_rfl) (by kernel_rfl) (by kernel_rfl) (fun _ _ _ h => h) (Or.inl ⟨by kernel_rfl, ?_⟩) (by assumption) ?_
    rotate_left
    · (intro w' hSw; (try dsimp only at hSw); go_simp); try with_reducible rfl
    go_simp
    refine wpAnyH_take (i := 12) (v := undef) rfl (by kernel_rfl) (by kernel_rfl) (by kernel_rfl) (fun _ _ _ h => h) (Or.inr ⟨by kernel_rfl, rfl⟩) (by assumption) ?_
    go_simp
    refine wpAnyH_take (i := 13) (v := undef) rfl (by kernel_rfl) (by kernel_rfl) (by kernel_rfl) (fun _ _ _ h => h) (Or.inr ⟨by kernel_rfl, rfl⟩) (by assumption) ?_
    go_simp
    refine wpAnyH_take (i := 14) (v := undef) rfl (by kernel_rfl) (by kernel_rfl) (by kernel_rfl) (fun _ _ _ h => h) (Or.inr ⟨by kernel_rfl, rfl⟩) (by assumption) ?_
    go_simp
    refine wpAnyH_take (i := 15) (v := undef) rfl (by kernel_rfl) (by kernel_rfl) (by kernel_rfl) (fun _ _ _ h => h) (Or.inr ⟨by kernel_rfl, rfl⟩) (by assumption) ?_
    go_simp
    refine wpAnyH_take (i := 16) (v := ?_) rfl (by kernel_rfl) (by kernel_rfl) (by kernel_rfl) (fun _ _ _ h => h) (Or.inl ⟨by kernel_rfl, ?_⟩) (by assumption) ?_
    rotate_left
    · (intro w' hSw; (try dsimp only at hSw); go_simp); try with_reducible rfl
    go_simp
    refine wpAnyH_take (i := 17) (v := ?_) rfl (by kernel_rfl) (by kernel_rfl) (by kernel_rfl) (fun _ _ _ h => h) (Or.inl ⟨by kernel_rfl, ?_⟩) (by assumption) ?_
    rotate_left
    · (intro w' hSw; (try dsimp only at hSw); go_simp); try with_reducible rfl
    go_simp
    refine wpAnyH_take (i := 18) (v := undef) rfl (by kernel_rfl) (by kernel_rfl) (by kernel_rfl) (fun _ _ _ h => h) (Or.inr ⟨by kernel_rfl, rfl⟩) (by assumption) ?_
    go_simp
    refine wpAnyH_take (i := 19) (v := undef) rfl (by kernel_rfl) (by kernel_rfl) (by kernel_rfl) (fun _ _ _ h => h) (Or.inr ⟨by kernel_rfl, rfl⟩) (by assumption) ?_
    go_simp
    refine wpAnyH_take (i := 20) (v := ?_) rfl (by kernel_rfl) (by kernel_rfl) (by kernel_rfl) (fun _ _ _ h => h) (Or.inl ⟨by kernel_rfl, ?_⟩) (by assumption) ?_
    rotate_left
    · (intro w' hSw; (try dsimp only at hSw); go_simp); try with_reducible rfl
    go_simp
    refine wpAnyH_take (i := 21) (v := ?_) rfl (by kernel_rfl) (by kernel_rfl) (by kernel_rfl) (fun _ _ _ h => h) (Or.inl ⟨by kernel_rfl, ?_⟩) (by assumption) ?_
    rotate_left
    · (intro w' hSw; (try dsimp only at hSw); go_simp); try with_reducible rfl
    go_simp
    refine wpAnyH_take (i := 22) (v := undef) rfl (by kernel_rfl) (by kernel_rfl) (by kernel_rfl) (fun _ _ _ h => h) (Or.inr ⟨by kernel_rfl, rfl⟩) (by assumption) ?_
    go_simp
    refine wpAnyH_take (i := 23) (v := undef) rfl (by kernel_rfl) (by kernel_rfl) (by kernel_rfl) (fun _ _ _ h => h) (Or.inr ⟨by kernel_rfl, rfl⟩) (by assumption) ?_
    go_simp
    refine wpAnyH_take (i := 24) (v := undef) rfl (by kernel_rfl) (by kernel_rfl) (by kernel_rfl) (fun _ _ _ h => h) (Or.inr ⟨by kernel_rfl, rfl⟩) (by assumption) ?_
    go_simp
    refine wpAnyH_take (i := 25) (v := undef) rfl (by kernel_rfl) (by kernel_rfl) (by kernel_rfl) (fun _ _ _ h => h) (Or.inr ⟨by kernel_rfl, rfl⟩) (by assumption) ?_
    go_simp
    refine wpAnyH_take (i := 26) (v := undef) rfl (by kernel_rfl) (by kernel_rfl) (by kernel_rfl) (fun _ _ _ h => h) (Or.inr ⟨by kernel_rfl, rfl⟩) (by assumption) ?_
    go_simp
    refine wpAnyH_take (i := 27) (v := ?_) rfl (by kernel_rfl) (by kernel_rfl) (by kernel_rfl) (fun _ _ _ h => h) (Or.inl ⟨by kernel_rfl, ?_⟩) (by assumption) ?_
    rotate_left
    · (intro w' hSw; (try dsimp only at hSw); go_simp); try with_reducible rfl
    go_simp
    refine wpAnyH_take (i := 28) (v := ?_) rfl (by kernel_rfl) (by kernel_rfl) (by kernel_rfl) (fun _ _ _ h => h) (Or.inl ⟨by kernel_rfl, ?_⟩) (by assumption) ?_
    rotate_left
    · (intro w' hSw; (try dsimp only at hSw); go_simp); try with_reducible rfl
    go_simp
    refine wpAnyH_done (by kernel_rfl) ?_ _
    go_wp2
    go_ret
    exact ⟨_, rfl, hbx.trans (hS1.2.2.2.2.mono hbx.size), fun h => by first | cases h | (simp at h; done)⟩

set_option maxRecDepth 100000 in
set_option maxHeartbeats 4000000 in
theorem part_other (d : Nat) (w : World) (p : PT) (nv wv dv pv : Value) (hk0 : (p.kind.toList == [114, 117, 108, 101]) = false) (hk1 : (p.kind.toList == [97, 116]) = false) (hk2 : (p.kind.toList == [98, 108, 111, 99, 107]) = false) :
    Calls Tryz.prog 15 #[.agg #[.string p.kind, nv, wv, dv, pv], .int .i64 d] w (BPost w (PartOK d p)) := by
  obtain ⟨kk, hkk⟩ : ∃ kk, kk = p.kind := ⟨_, rfl⟩
  rw [← hkk] at hk0 hk1 hk2 ⊢
  clear hkk
  have hb := (Below.refl w.heap.size w).alloc (Nat.le_refl _)
  go_enter Tryz.func15, Tryz.ntmps15
  go_wp2
  go_ret
  exact ⟨_, rfl, hb _, fun h => by cases h⟩
theorem isPart_any (d : Nat) (hd : d ≤ 1000) (IH : ∀ d', d = d' + 1 → AreP d') (w : World) (p : PT) (nv wv dv pv : Value) (hm : PMem w p nv wv dv) (hp : PartsMem w pv p.parts) (hU : Utab w) :
    Calls Tryz.prog 15 #[.agg #[.string p.kind, nv, wv, dv, pv], .int .i64 d] w (BPost w (PartOK d p)) := by
  cases h0 : p.kind.toList == [114, 117, 108, 101] with
  | true => exact part_rule d w p nv wv dv pv hm hp hU h0
  | false =>
    cases h1 : p.kind.toList == [97, 116] with
    | true => exact part_at d w p nv wv dv pv hm hp hU h1
    | false =>
      cases h2 : p.kind.toList == [98, 108, 111, 99, 107] with
      | true => exact part_block d hd IH w p nv wv dv pv hm hp hU h2
      | false => exact part_other d w p nv wv dv pv h0 h1 h2
end Go.Proofs.YtlglijnaeaonpaaGreatDoor.Css
/- Whether a list of parts is that of a sheet. -/
namespace Go.Proofs.YtlglijnaeaonpaaGreatDoor.Css
open Go.RowKit

set_option maxRecDepth 100000 in
set_option maxHeartbeats 4000000 in
theorem areParts_step (d : Nat) (hd : d ≤ 1000) (IH : ∀ d', d = d' + 1 → AreP d') : AreP d := by
  intro w v ps h hU
  obtain ⟨a, c, rfl, hc1, hc2⟩ := h.shape
  rcases Nat.eq_zero_or_pos ps.length with h0 | h0
  · rw [h0]
    have HR := Lib.hid (show PartsOK d ps from PartsOK.mk (by omega) (by rw [List.eq_nil_of_length_eq_zero h0]; exact fun _ h => (by cases h)))
    clear h0 hc1 h hU IH
    go_enter Tryz.func5, Tryz.ntmps5
    go_wp2
    refine wp_loop_once fun _ => ?_
    go_wp2
    go_ret
    exact ⟨true, rfl, Below.refl _ _, fun _ => HR.out⟩
  obtain ⟨g, o, rfl, hcell⟩ := h.at h0
  have HC := Lib.hid hcell
  have HU := Lib.hid hU
  have HI := Lib.hid IH
  have h3 := hU.lt
  clear hcell hU h IH
  go_enter Tryz.func5, Tryz.ntmps5
  go_wp2
  go_loopg [9] ps.length (fun k i wr => ∃ q, q ≤ ps.length ∧ k = ps.length - q ∧ i = .int .i64 q ∧ Below w.heap.size w wr ∧ ∀ j (hj : j < ps.length), j < q → Vals ps[j].words ∧ PartOK d ps[j])
  case atStart => exact ⟨0, Nat.zero_le _, rfl, rfl, Below.refl _ _, fun _ _ h => by omega⟩
  case round =>
    obtain ⟨q, hq, hk, rfl, hbel, hall⟩ := hrel
    have HA := Lib.hid hall
    have HK := Lib.hid hk
    clear hall hk
    by_cases hlt : q < ps.length
    · obtain ⟨p, hx⟩ : ∃ p, p = ps[q] := ⟨_, rfl⟩
      obtain ⟨nv, wv, dv, pv, k0, k1, k2, k3, k4, hm, hpm⟩ := HC.out q hlt
      rw [← hx] at k0 hm hpm
      have HX := Lib.hid (show ∀ (P : PT → Prop), P p → P ps[q] from fun P h => hx ▸ h)
      have HLT := Lib.hid hlt
      clear hx
      replace k0 := (hbel.cell (p := ⟨g, o + q * 5, none⟩) (World.block_lt_of_cell? w _ k0)).trans k0
      replace k1 := (hbel.cell (p := ⟨g, o + q * 5 + 1, none⟩) (World.block_lt_of_cell? w _ k1)).trans k1
      replace k2 := (hbel.cell (p := ⟨g, o + q * 5 + 2, none⟩) (World.block_lt_of_cell? w _ k2)).trans k2
      replace k3 := (hbel.cell (p := ⟨g, o + q * 5 + 3, none⟩) (World.block_lt_of_cell? w _ k3)).trans k3
      replace k4 := (hbel.cell (p := ⟨g, o + q * 5 + 4, none⟩) (World.block_lt_of_cell? w _ k4)).trans k4
      replace hm := hm.below hbel
      replace hpm := hpm.goOn hbel
      obtain ⟨wa, wc0, rfl, _, _, _⟩ := id hm.ws
      obtain ⟨na, nc0, rfl, _, _, _⟩ := id hm.nm
      obtain ⟨da, dc0, rfl, _, _, _⟩ := id hm.ds
      obtain ⟨pa, pc0, rfl, _, _⟩ := hpm.shape
      have HM := Lib.hid (show _ ∧ _ from ⟨hm, hpm⟩)
      clear hm hpm
      go_upto_region 3 with fail
      go_cut [6] (fun s wx => ∃ tg, s = .pointer (some ⟨tg, 0, none⟩) ∧ wx.cell? ⟨tg, 0, none⟩ = some (.string p.kind) ∧ wx.cell? ⟨tg, 1, none⟩ = some (.slice na p.name.length nc0) ∧ wx.cell? ⟨tg, 2, none⟩ = some (.slice wa p.words.length wc0) ∧ wx.cell? ⟨tg, 3, none⟩ = some (.slice da p.decls.length dc0) ∧ wx.cell? ⟨tg, 4, none⟩ = some (.slice pa p.parts.length pc0) ∧ tg < wx.heap.size ∧ Below wr.heap.size wr wx)
      case first =>
        have hb := (Below.refl wr.heap.size wr).alloc (Nat.le_refl _)
        go_wp2_with fail
        go_meet
        exact ⟨_, rfl, by rw [World.cell?_alloc_new]; rfl, by rw [World.cell?_alloc_new]; rfl, by rw [World.cell?_alloc_new]; rfl, by rw [World.cell?_alloc_new]; rfl, by rw [World.cell?_alloc_new]; rfl, by simp, hb _⟩
      case rest =>
      clear k0 k1 k2 k3 k4
      obtain ⟨tg, rfl, t0, t1, t2, t3, t4, htg, hbx⟩ := hcut
      obtain ⟨hm, hpm⟩ := HM.out
      have hb2 := hbel.trans (hbx.mono hbel.size)
      have hav := areValues_any wc _ p.words (hm.ws.below hbx) (HU.out.below h3 hb2) hm.l2
      have hip := fun w1 (hb : Below wc.heap.size wc w1) => isPart_any d hd HI.out w1 p _ _ _ _ (hm.below (hbx.trans (hb.mono hbx.size))) (hpm.goOn (hbx.trans (hb.mono hbx.size))) (HU.out.below h3 (hb2.trans (hb.mono hb2.size)))
      have HB2 := Lib.hid hb2
      have HIP := Lib.hid hip
      clear hm hpm hip hbx hb2 hbel
      go_upto_region 4 with fail
      go_cut [22] (fun s wx => ∃ r : Bool, s = .bool r ∧ Below wc.heap.size wc wx ∧ (r = false → Vals p.words ∧ PartOK d p))
      case first =>
        by_cases hv : Vals p.words
        · by_cases hp : PartOK d p
          · have HN := Lib.hid (show Vals p.words ∧ PartOK d p from ⟨hv, hp⟩)
            clear hp hv
            go_wp2_with (first | (go_at_call 14; (with_reducible refine hav.mono ?_); rintro e w1 ⟨r2, rfl, hb1, hr2⟩; clear hr2; have hip := HIP.out w1 hb1; have m0 := (hb1.cell (p := ⟨tg, 0, none⟩) htg).trans t0; have m1 := (hb1.cell (p := ⟨tg, 1, none⟩) htg).trans t1; have m2 := (hb1.cell (p := ⟨tg, 2, none⟩) htg).trans t2; have m3 := (hb1.cell (p := ⟨tg, 3, none⟩) htg).trans t3; have m4 := (hb1.cell (p := ⟨tg, 4, none⟩) htg).trans t4) | (go_at_call 15; (with_reducible refine hip.mono ?_); rintro e w2 ⟨r, rfl, hb3, hr1⟩; clear hr1; have hb4 := hb1.trans (hb3.mono hb1.size)))
            all_goals (go_meet; exact ⟨_, rfl, by first | exact hb4 | exact hb1, fun _ => HN.out⟩)
          · have HP := Lib.hid hp
            clear hp hv
            go_wp2_with (first | (go_at_call 14; (with_reducible refine hav.mono ?_); rintro e w1 ⟨r2, rfl, hb1, hr2⟩; clear hr2; have hip := HIP.out w1 hb1; have m0 := (hb1.cell (p := ⟨tg, 0, none⟩) htg).trans t0; have m1 := (hb1.cell (p := ⟨tg, 1, none⟩) htg).trans t1; have m2 := (hb1.cell (p := ⟨tg, 2, none⟩) htg).trans t2; have m3 := (hb1.cell (p := ⟨tg, 3, none⟩) htg).trans t3; have m4 := (hb1.cell (p := ⟨tg, 4, none⟩) htg).trans t4) | (go_at_call 15; (with_reducible refine hip.mono ?_); rintro e w2 ⟨r, rfl, hb3, hr1⟩; obtain rfl : r = false := (by cases r with | false => rfl | true => exact absurd (hr1 rfl) HP.out); clear hr1; have hb4 := hb1.trans (hb3.mono hb1.size)))
            all_goals (go_meet; exact ⟨_, rfl, by first | exact hb4 | exact hb1, fun h => (by cases h)⟩)
        · have HV := Lib.hid hv
          clear hv
          go_wp2_with (go_at_call 14; (with_reducible refine hav.mono ?_); rintro e w1 ⟨r2, rfl, hb1, hr2⟩; obtain rfl : r2 = false := (by cases r2 with | false => rfl | true => exact absurd (hr2 rfl) HV.out); clear hr2)
          go_meet
          exact ⟨true, rfl, hb1, fun h => (by cases h)⟩
      case rest =>
      clear hav t0 t1 t2 t3 t4
      obtain ⟨r, rfl, hb3, hr3⟩ := hcut
      have HB3 := Lib.hid (HB2.out.trans (hb3.mono HB2.out.size))
      have HR3 := Lib.hid hr3
      clear hb3 hr3
      cases r with
      | true =>
        go_wp2
        go_ret
        exact ⟨false, rfl, HB3.out, fun h => by cases h⟩
      | false =>
        go_wp2
        go_roundg (ps.length - (q + 1))
        case measure => have h1 := HK.out; have h2 := HLT.out; omega
        case rel =>
          refine ⟨q + 1, HLT.out, rfl, by go_num, HB3.out, fun j hj hjq => ?_⟩
          by_cases e : j = q
          · subst e
            exact HX.out (fun y => Vals y.words ∧ PartOK d y) (HR3.out (by first | rfl | trivial))
          · exact HA.out j hj (by omega)
    · have hq' : q = ps.length := by omega
      have HALL := Lib.hid (show ∀ j (hj : j < ps.length), Vals ps[j].words ∧ PartOK d ps[j] from fun j hj => HA.out j hj (by omega))
      by_cases h10 : ps.length ≤ 10
      · have y0 : decide (ps.length ≤ 10) = true := decide_eq_true h10
        have y1 : decide ((ps.length : Int) ≤ 10) = true := decide_eq_true (by omega)
        subst hq'
        go_wp2
        go_ret
        refine ⟨true, rfl, hbel, fun _ => PartsOK.mk h10 (fun x hx => ?_)⟩
        obtain ⟨j, hj, rfl⟩ := List.mem_iff_getElem.1 hx; exact HALL.out j hj
      · have y0 : decide (ps.length ≤ 10) = false := decide_eq_false h10
        have y1 : decide ((ps.length : Int) ≤ 10) = false := decide_eq_false (by omega)
        subst hq'
        go_wp2
        go_ret
        exact ⟨false, rfl, hbel, fun h => by cases h⟩
theorem areParts_any (d : Nat) (hd : d ≤ 1000) : AreP d := by
  induction d with
  | zero => exact areParts_step 0 hd (fun _ h => by omega)
  | succ d ih => exact areParts_step (d + 1) hd (fun d' h => by
      obtain rfl : d = d' := by omega
      exact ih (by omega))
end Go.Proofs.YtlglijnaeaonpaaGreatDoor.Css
/- A text in the making that is not nil: what is appended to it, one operation at a time; the text of parts. -/
namespace Go.Proofs.YtlglijnaeaonpaaGreatDoor.Css
open Go.RowKit

/-- A text of one's own that is not nil. -/
structure Tx (B : Nat) (w0 w : World) (v : Value) (l : List UInt8) : Prop where
  t : Txt B w0 w v l
  nn : v ≠ .slice none 0 0
theorem Tx.alloc {B : Nat} {w0 w : World} {v : Value} {l : List UInt8} (h : Tx B w0 w v l) (o : Obj) : Tx B w0 (w.alloc o) v l := ⟨h.t.alloc o, h.nn⟩
theorem Tx.below {B : Nat} {w0 w w' : World} {v : Value} {l : List UInt8} (h : Tx B w0 w v l) (hb : Below w.heap.size w w') : Tx B w0 w' v l := ⟨h.t.below hb, h.nn⟩
theorem Tx.bel {B : Nat} {w0 w : World} {v : Value} {l : List UInt8} (h : Tx B w0 w v l) : Below B w0 w := h.t.bel
theorem Tx.start (w0 : World) : Tx w0.heap.size w0 (w0.alloc (.cells #[] 5)) (.slice (some ⟨w0.heap.size, 0, none⟩) 0 0) [] := ⟨Txt.start w0, fun h => by cases h⟩
theorem Tx.lies {B : Nat} {w0 w : World} {v : Value} {l : List UInt8} (h : Tx B w0 w v l) : ∃ g cap, v = .slice (some ⟨g, 0, none⟩) l.length cap ∧ g < w.heap.size ∧ l.length ≤ cap ∧ Lies w g 0 l := by
  obtain ⟨⟨⟨_, h2⟩, _, _⟩, hn⟩ := id h
  rcases h2 with ⟨h1, _⟩ | ⟨g, cap, cur, rfl, _, hg, hc, _, _, _⟩
  · exact absurd h1 hn
  · refine ⟨g, cap, rfl, (Array.getElem?_eq_some_iff.1 hg).1, hc, fun i hi => ?_⟩
    have := h.t.own.cells (g := g) rfl i _ (cellsOf_get l i hi)
    rwa [Addr.add_lit] at this
theorem Tx.shape {B : Nat} {w0 w : World} {v : Value} {l : List UInt8} (h : Tx B w0 w v l) : ∃ a n c, v = .slice a n c := h.t.shape
/-- A new block is no one's own. -/
theorem Tx.fresh {B : Nat} {w0 w : World} {v : Value} {l : List UInt8} (h : Tx B w0 w v l) : v.ownBlock ≠ some w.heap.size := fun e => by
  have := (h.t.own.lt _ e).2
  omega
/-- A block of one byte is not that of another text. -/
theorem Tx.apart {B : Nat} {w0 w : World} {v : Value} {l : List UInt8} (h : Tx B w0 w v l) {b : Nat} {c : UInt8} {m : Int} (hm : m = c.toNat) (hb : w.heap[b]? = some (.cells #[.int .u8 m] 5 (0, 0))) (h0 : l ≠ []) (h1 : l ≠ [c]) : v.ownBlock ≠ some b := fun e => by
  subst hm
  obtain ⟨⟨⟨_, h2⟩, _, _⟩, hn⟩ := id h
  rcases h2 with ⟨rfl, _⟩ | ⟨g, cap, cur, rfl, _, hg, hc, _, hs, ht⟩
  · exact hn rfl
  · cases e
    rw [hb] at hg
    cases hg
    have hs' : 1 = cap * 1 := hs
    match l, h0, h1, hc, ht with
    | [x], _, h1, _, ht =>
      have ht' : [Value.int .u8 (c.toNat : Int)] = [Value.int .u8 (x.toNat : Int)] := ht
      simp only [List.cons.injEq, Value.int.injEq, and_true, true_and] at ht'
      exact h1 (by rw [show x = c from UInt8.toNat_inj.1 (by omega)])
    | x :: y :: r, _, _, hc, _ => simp at hc; omega

/-- Bytes are appended, in a region. -/
theorem wp_t {w : World} {o : Oper} {a : Act} {K0 : Act → World → Prop} {Q : Exit → Act → World → Prop} (s x : Operand)
    (hop : o.op = .call { callee := .builtin .append, args := #[s, x], argTypes := #[24, 24] }) {B : Nat} {w0 : World} {v : Value} {l : List UInt8} (hs : a.eval s = v) (hT : Tx B w0 w v l)
    {b off n c : Nat} {src : List UInt8} (hx : a.eval x = .slice (some ⟨b, off, none⟩) n c) (hn : src.length = n) (hL : Lies w b off src) (hlen : l.length + src.length ≤ 140737488351232)
    (K : ∀ v' w', Tx B w0 w' v' (l ++ src) → Oth w w' → (∀ (k : Nat) (o : Obj), w.heap[k]? = some o → v.ownBlock ≠ some k → w'.heap[k]? = some o) → K0 (a.put o.dst v') w') : o.wp Tryz.prog a w K0 Q := by
  obtain ⟨i0, hi, hz0, hz1, hz2⟩ := info_parts info5
  subst hn
  exact wp_append_own _ s x 24 hop B 5 i0 (.int .u8 0) 1 1 Tryz.underlying24 hi hz0 hz1 hz2 rfl (by decide) v l.length (cellsOf l) hs hT.t.own ⟨b, off, none⟩ src.length c (cellsOf src) hx (by rw [cellsOf_length, Nat.mul_one]) hL.cells (cellsOf_one src)
    (by unfold maxLen; omega) (by omega) hT.t.hB' fun v' w' h1 h2 h3 => K v' w' ⟨(hT.t.grow h1 h2).1, fun e => hT.nn (h3.1 e).1⟩ (hT.t.grow h1 h2).2 fun k o hk hne => by
      rw [h2.block k (Array.getElem?_eq_some_iff.1 hk).1 (fun e => hne e.symm)]; exact hk
theorem step_t {w : World} {ops : Array Oper} {o : Oper} {a : Act} {K0 : Act → World → Prop} {Q : Exit → Act → World → Prop} {E : Prop} (hgd : o.guard = none) (s x : Operand)
    (hop : o.op = .call { callee := .builtin .append, args := #[s, x], argTypes := #[24, 24] }) {B : Nat} {w0 : World} {v : Value} {l : List UInt8} (hs : a.eval s = v) (hT : Tx B w0 w v l)
    {b off n c : Nat} {src : List UInt8} (hx : a.eval x = .slice (some ⟨b, off, none⟩) n c) (hn : src.length = n) (hL : Lies w b off src) (hlen : l.length + src.length ≤ 140737488351232)
    (K : ∀ v' w', Tx B w0 w' v' (l ++ src) → Oth w w' → (∀ (k : Nat) (o : Obj), w.heap[k]? = some o → v.ownBlock ≠ some k → w'.heap[k]? = some o) → K0 (a.put o.dst v') w') : if Region.wanted o (yielded ops a.tmps) = true then Oper.wp Tryz.prog o a w K0 Q else E := by
  have hw : Region.wanted o (yielded ops a.tmps) = true := by simp [Region.wanted, hgd]
  rw [if_pos hw]
  exact wp_t s x hop hs hT hx hn hL hlen K
theorem app_t {w : World} {ops : Array Oper} {rest : List Oper} {o : Oper} {a : Act} {Q : Exit → Act → World → Prop} (hg : o.guard = none) (s x : Operand)
    (hop : o.op = .call { callee := .builtin .append, args := #[s, x], argTypes := #[24, 24] }) {B : Nat} {w0 : World} {v : Value} {l : List UInt8} (hs : a.eval s = v) (hT : Tx B w0 w v l)
    {b off n c : Nat} {src : List UInt8} (hx : a.eval x = .slice (some ⟨b, off, none⟩) n c) (hn : src.length = n) (hL : Lies w b off src) (hlen : l.length + src.length ≤ 140737488351232)
    (K : ∀ v' w', Tx B w0 w' v' (l ++ src) → Oth w w' → wpList Tryz.prog ops Q rest (a.put o.dst v') w') : wpList Tryz.prog ops Q (o :: rest) a w :=
  wpList_plain hg fun _ hK => wp_t s x hop hs hT hx hn hL hlen fun v' w' h1 h2 _ => hK _ _ (K v' w' h1 h2)
/-- A string is appended, in a region. -/
theorem wp_s {w : World} {o : Oper} {a : Act} {K0 : Act → World → Prop} {Q : Exit → Act → World → Prop} (s x : Operand)
    (hop : o.op = .call { callee := .builtin .append, args := #[s, x], argTypes := #[24, 9] }) {B : Nat} {w0 : World} {v : Value} {l : List UInt8} (hs : a.eval s = v) (hT : Tx B w0 w v l)
    {str : ByteArray} (hx : a.eval x = .string str) (hlen : l.length + str.data.toList.length ≤ 140737488351232)
    (K : ∀ v' w', Tx B w0 w' v' (l ++ str.data.toList) → Oth w w' → (∀ (k : Nat) (o : Obj), w.heap[k]? = some o → v.ownBlock ≠ some k → w'.heap[k]? = some o) → K0 (a.put o.dst v') w') : o.wp Tryz.prog a w K0 Q := by
  obtain ⟨i0, hi, hz0, hz1, hz2⟩ := info_parts info5
  have hz : str.size = str.data.toList.length := by rw [Array.length_toList]; rfl
  obtain ⟨v', w', hr, h1, h2, h3⟩ := Lib.run_append_own_string (P := Tryz.prog) w B 24 9 o.type 5 i0 Tryz.underlying24 Tryz.underlying9 hi hz0 hz1 hz2 v l.length (cellsOf l) hT.t.own str (by unfold maxLen; omega) (by omega) hT.t.hB'
  unfold Oper.wp execOp
  simp only [hop, resolve, invoke, builtin, Sem.run_bind, Sem.run_pure, Result.andThen_ok, List.map_toArray, List.map_cons, List.map_nil, hs, hx, hr]
  rw [hz, strCells_of] at h1
  exact K v' w' ⟨(hT.t.grow h1 h2).1, fun e => hT.nn (h3.1 e).1⟩ (hT.t.grow h1 h2).2 fun k o hk hne => by
      rw [h2.block k (Array.getElem?_eq_some_iff.1 hk).1 (fun e => hne e.symm)]; exact hk
theorem step_s {w : World} {ops : Array Oper} {o : Oper} {a : Act} {K0 : Act → World → Prop} {Q : Exit → Act → World → Prop} {E : Prop} (hgd : o.guard = none) (s x : Operand)
    (hop : o.op = .call { callee := .builtin .append, args := #[s, x], argTypes := #[24, 9] }) {B : Nat} {w0 : World} {v : Value} {l : List UInt8} (hs : a.eval s = v) (hT : Tx B w0 w v l)
    {str : ByteArray} (hx : a.eval x = .string str) (hlen : l.length + str.data.toList.length ≤ 140737488351232)
    (K : ∀ v' w', Tx B w0 w' v' (l ++ str.data.toList) → Oth w w' → (∀ (k : Nat) (o : Obj), w.heap[k]? = some o → v.ownBlock ≠ some k → w'.heap[k]? = some o) → K0 (a.put o.dst v') w') : if Region.wanted o (yielded ops a.tmps) = true then Oper.wp Tryz.prog o a w K0 Q else E := by
  have hw : Region.wanted o (yielded ops a.tmps) = true := by simp [Region.wanted, hgd]
  rw [if_pos hw]
  exact wp_s s x hop hs hT hx hlen K
theorem app_s {w : World} {ops : Array Oper} {rest : List Oper} {o : Oper} {a : Act} {Q : Exit → Act → World → Prop} (hg : o.guard = none) (s x : Operand)
    (hop : o.op = .call { callee := .builtin .append, args := #[s, x], argTypes := #[24, 9] }) {B : Nat} {w0 : World} {v : Value} {l : List UInt8} (hs : a.eval s = v) (hT : Tx B w0 w v l)
    {str : ByteArray} (hx : a.eval x = .string str) (hlen : l.length + str.data.toList.length ≤ 140737488351232)
    (K : ∀ v' w', Tx B w0 w' v' (l ++ str.data.toList) → Oth w w' → wpList Tryz.prog ops Q rest (a.put o.dst v') w') : wpList Tryz.prog ops Q (o :: rest) a w :=
  wpList_plain hg fun _ hK => wp_s s x hop hs hT hx hlen fun v' w' h1 h2 _ => hK _ _ (K v' w' h1 h2)
theorem lies1 {w : World} {b : Nat} {c : UInt8} {m : Int} (hm : m = c.toNat) (h : w.heap[b]? = some (.cells #[.int .u8 m] 5 (0, 0))) : Lies w b 0 [c] := by
  subst hm
  intro i hi
  have hi' : i < 1 := hi
  obtain rfl : i = 0 := by omega
  rw [cell_at h]; rfl
theorem keepB {w w' : World} (hb : Below w.heap.size w w') {b : Nat} {o : Obj} (h : w.heap[b]? = some o) : w'.heap[b]? = some o := (hb.block b (Array.getElem?_eq_some_iff.1 h).1).trans h
theorem keepA {w : World} (u : Obj) {b : Nat} {o : Obj} (h : w.heap[b]? = some o) : (w.alloc u).heap[b]? = some o := keepB ((Below.refl w.heap.size w).alloc (Nat.le_refl _) u) h
theorem keepL {w w' : World} (hb : Below w.heap.size w w') {b off : Nat} {l : List UInt8} (h : Lies w b off l) (hlt : b < w.heap.size) : Lies w' b off l := h.below hlt hb

/-- The text of one part. -/
def headT (st : Int) (p : PT) (body : List UInt8) : List UInt8 :=
  bif kRule p then p.name ++ gapL st ++ [123] ++ gapL st ++ dtext st p.decls ++ gapL st ++ [125]
  else bif kAt p then [64] ++ p.name ++ wordsL p.words ++ [59]
  else [64] ++ p.name ++ wordsL p.words ++ gapL st ++ [123] ++ gapL st ++ body ++ gapL st ++ [125]
/-- The text of parts. -/
def ptext (st : Int) : Nat → List PT → List UInt8
  | 0, ps => ps.flatMap fun p => headT st p [] ++ gapL st
  | d + 1, ps => ps.flatMap fun p => headT st p (ptext st d p.parts) ++ gapL st
def bodyT (st : Int) : Nat → PT → List UInt8
  | 0, _ => []
  | d + 1, p => ptext st d p.parts
theorem ptext_eq (st : Int) (d : Nat) (ps : List PT) : ptext st d ps = ps.flatMap fun p => headT st p (bodyT st d p) ++ gapL st := by cases d <;> rfl
theorem ptext_snoc (st : Int) (d : Nat) (ps : List PT) (p : PT) : ptext st d (ps ++ [p]) = ptext st d ps ++ headT st p (bodyT st d p) ++ gapL st := by
  rw [ptext_eq, ptext_eq, List.flatMap_append, List.append_assoc]; simp
theorem StmtN.len {l : List UInt8} (h : StmtN l) : 0 < l.length ∧ l.length ≤ 60 := by rcases h with rfl | rfl | rfl <;> decide
theorem BlockN.len {l : List UInt8} (h : BlockN l) : 0 < l.length ∧ l.length ≤ 60 := by rcases h with rfl | rfl | rfl <;> decide
theorem PartsOK.le {d : Nat} {ps : List PT} (h : PartsOK d ps) : ps.length ≤ 10 := by cases d <;> exact h.1
theorem PartsOK.part {d : Nat} {ps : List PT} (h : PartsOK d ps) : ∀ p ∈ ps, Vals p.words ∧ PartOK d p := by
  intro p hp
  cases d with
  | zero =>
    rcases h.2 p hp with ⟨h1, h2 | h2⟩
    · exact ⟨h1, .inl h2⟩
    · exact ⟨h1, .inr (.inl h2)⟩
  | succ d =>
    rcases h.2 p hp with ⟨h1, h2 | h2 | ⟨h2, h3⟩⟩
    · exact ⟨h1, .inl h2⟩
    · exact ⟨h1, .inr (.inl h2)⟩
    · exact ⟨h1, .inr (.inr ⟨h2, d, rfl, h3⟩)⟩
theorem DsOK.fit {ds : List (List UInt8 × List (List UInt8))} (h : DsOK ds) : ∀ d ∈ ds, d.1.length ≤ 20 ∧ (∀ x ∈ d.2, x.length ≤ 60) ∧ d.2.length ≤ 8 :=
  fun d hd => ⟨(h.ok d hd).1.le, fun x hx => ((h.ok d hd).2.1.vt x hx).le, (h.ok d hd).2.1.le⟩
theorem kinds {p : PT} : (kRule p = true → kAt p = false) ∧ (kBlock p = true → kRule p = false ∧ kAt p = false) ∧ (kAt p = true → kRule p = false) := by
  refine ⟨fun h => ?_, fun h => ?_, fun h => ?_⟩
  · unfold kAt; rw [beq_iff_eq.1 h]; decide
  · unfold kAt kRule; rw [beq_iff_eq.1 h]; decide
  · unfold kRule; rw [beq_iff_eq.1 h]; decide
theorem headT_len {st : Int} {d : Nat} {p : PT} (hv : Vals p.words) (h : PartOK d p) (body : List UInt8) : (headT st p body).length ≤ 6000 + body.length := by
  have hg := gapL_len st
  have hw := wordsL_len p.words fun x hx => (hv.vt x hx).le
  have hw8 := hv.le
  rcases h with h | h | ⟨h, _⟩
  · have h1 := dtext_len st p.decls h.ds.fit
    have h2 := h.ds.le
    have h3 := h.nm.le
    simp only [headT, h.k, cond_true, List.length_append, List.length_cons, List.length_nil]
    omega
  · have h1 := h.nm.len
    simp only [headT, h.k, kinds.2.2 h.k, cond_true, cond_false, List.length_append, List.length_cons, List.length_nil]
    omega
  · have h1 := h.nm.len
    simp only [headT, kinds.2.1 h.k, cond_false, List.length_append, List.length_cons, List.length_nil]
    omega
theorem flatM_len {α : Type} (f : α → List UInt8) (M : Nat) (l : List α) (h : ∀ x ∈ l, (f x).length ≤ M) : (l.flatMap f).length ≤ M * l.length := by
  induction l with
  | nil => simp
  | cons a l ih =>
    have h1 := h a (by simp)
    have h2 := ih fun x hx => h x (by simp [hx])
    simp only [List.flatMap_cons, List.length_append, List.length_cons, Nat.mul_add]
    omega
theorem part_len {st : Int} {d : Nat} {p : PT} (hv : Vals p.words) (h : PartOK d p) : (headT st p (bodyT st d p) ++ gapL st).length ≤ 10000 * 11 ^ d := by
  induction d generalizing p with
  | zero =>
    have h1 := headT_len (st := st) hv h []
    have h2 := gapL_len st
    simp only [bodyT, List.length_append, List.length_nil] at h1 ⊢
    omega
  | succ d ih =>
    have h1 := headT_len (st := st) hv h (bodyT st (d + 1) p)
    have h2 := gapL_len st
    have h3 : 1 ≤ 11 ^ d := Nat.one_le_pow _ _ (by omega)
    rcases h with h | h | ⟨h, d', hd, hP⟩
    · have h4 := headT_len (st := st) (d := d) hv (.inl h) []
      have : headT st p (bodyT st (d + 1) p) = headT st p [] := by simp only [headT, h.k, cond_true]
      rw [this, List.length_append, Nat.pow_succ]
      simp only [List.length_nil] at h4
      omega
    · have h4 := headT_len (st := st) (d := d) hv (.inr (.inl h)) []
      have : headT st p (bodyT st (d + 1) p) = headT st p [] := by simp only [headT, h.k, kinds.2.2 h.k, cond_true, cond_false]
      rw [this, List.length_append, Nat.pow_succ]
      simp only [List.length_nil] at h4
      omega
    · obtain rfl : d = d' := by omega
      have h4 := flatM_len (fun p => headT st p (bodyT st d p) ++ gapL st) (10000 * 11 ^ d) p.parts fun x hx => ih (hP.part x hx).1 (hP.part x hx).2
      have h5 : bodyT st (d + 1) p = p.parts.flatMap fun p => headT st p (bodyT st d p) ++ gapL st := ptext_eq st d p.parts
      rw [← h5] at h4
      have h6 := hP.le
      have h7 := Nat.mul_le_mul_left (10000 * 11 ^ d) h6
      rw [List.length_append, Nat.pow_succ]
      omega
theorem ptext_len {st : Int} {d : Nat} {ps : List PT} (h : PartsOK d ps) (hd : d ≤ 3) : (ptext st d ps).length ≤ 133100000 := by
  have h1 := flatM_len (fun p => headT st p (bodyT st d p) ++ gapL st) (10000 * 11 ^ d) ps fun x hx => part_len (h.part x hx).1 (h.part x hx).2
  rw [← ptext_eq] at h1
  have h2 := h.le
  have h3 : 11 ^ d ≤ 11 ^ 3 := Nat.pow_le_pow_right (by omega) hd
  have h4 := Nat.mul_le_mul (Nat.mul_le_mul_left 10000 h3) h2
  omega
theorem PartsOK.take {d : Nat} {ps : List PT} (h : PartsOK d ps) (q : Nat) : PartsOK d (ps.take q) :=
  PartsOK.mk (Nat.le_trans (List.length_take_le' q ps) h.le) fun p hp => h.part p (List.mem_of_mem_take hp)
def TxPost (w : World) (l : List UInt8) (e : Ending) (w' : World) : Prop := ∃ v, e = .returned v ∧ Tx w.heap.size w w' v l
/-- The text of a sheet of a depth. -/
def TextP (st : Int) (d : Nat) : Prop := ∀ (w : World) (v : Value) (ps : List PT), PartsMem w v ps → PartsOK d ps → Calls Tryz.prog 6 #[v, .int .i64 st] w (TxPost w (ptext st d ps))
theorem fiveC {w : World} {g : Nat} {a b c d e : Value} {t : TypeId} {f : Nat × Nat} (h : w.heap[g]? = some (.cells #[a, b, c, d, e] t f)) :
    w.cell? ⟨g, 0, none⟩ = some a ∧ w.cell? ⟨g, 1, none⟩ = some b ∧ w.cell? ⟨g, 2, none⟩ = some c ∧ w.cell? ⟨g, 3, none⟩ = some d ∧ w.cell? ⟨g, 4, none⟩ = some e := by
  refine ⟨?_, ?_, ?_, ?_, ?_⟩ <;> (rw [cell_at h]; rfl)
end Go.Proofs.YtlglijnaeaonpaaGreatDoor.Css
