/- A declaration: its beginning. -/
import Derived.Test.YtlglijnaeaonpaaGreatDoorMg
set_option linter.all false
/- A declaration: its beginning. -/
namespace Go.Proofs.YtlglijnaeaonpaaGreatDoor.Css
open Go.RowKit

/-- What a declaration leaves. -/
def DPost (X : Lx) (pp B : Nat) (w : World) (r : PR) (fns : List Nat) (vals : List Tok) (e : Nat) (tE : Int) (qE : Nat) (nm : Tok) (x : Ending) (w' : World) : Prop :=
  x = .returned (.int .u32 8) ∧ ∃ (bufv dv : Value) (out : List Tok), Slb w' dv nm.bs ∧ out.filter nb = vals ∧
    PAt X pp B w' qE { r with buf := bufv, level := 0, pw := isWS (byte X.t e), pc := false, data := dv, pe := (tE == 31) } out fns ∧ Adv B w w'

section
variable (X : Lx) (pp B : Nat) (w : World) (p : Nat) (r : PR) (toks : List Tok) (fns : List Nat) (h : PAt X pp B w p r toks fns)
include h

set_option maxRecDepth 100000 in
set_option maxHeartbeats 2000000 in
theorem decl_any (nm : Tok) (hnm : nm.Ok w) (hnc : NoCap nm.bs) (hnl : nm.bs.length ≤ 200000) (hnt : r.tt = nm.tt) (hnd : r.data = nm.val) (hlv : r.level = 0) (l : List (Int × Nat × Nat)) (e : Nat) (hl : Toks X p l e) (hbal : Bal 0 l)
    (c : Tok) (vals : List Tok) (hv0 : vals ≠ []) (hcv : X.toks l = c :: vals) (hc : c.tt = 23) (hws : isWS (byte X.t p) = false) (hp0 : 1 ≤ 2 * p) (hbigt : X.t.length ≤ 200000) (tE : Int) (vE : Value) (qE : Nat) (hE : Pop X e tE vE qE) (htE : tE = 24 ∨ tE = 31 ∨ tE = 0) :
    Calls Tryz.prog 55 #[.pointer (some ⟨pp, 0, none⟩)] w (DPost X pp B w r fns vals e tE qE nm) := by
  have hb := initBuf_any X pp B w p r toks fns h
  have HT := Lib.hid hl
  have HBL := Lib.hid hbal
  have HCV := Lib.hid hcv
  have HE := Lib.hid hE
  have HTE := Lib.hid htE
  have HNC := Lib.hid hnc
  have HNL := Lib.hid hnl
  clear hl hbal hcv hE htE hnc hnl
  go_enter Tryz.func55, Tryz.ntmps55
  go_wp2_with (first | (go_at_call 57; (with_reducible refine hb.mono ?_); rintro e w1 ⟨rfl, v1, hP, hA⟩))
  have k7 := hP.f7
  have k6 := hP.f6
  simp only at k6 k7
  rw [hnt] at k7
  rw [hnd] at k6
  have hpush := fun (w2 : World) (hP : PAt X pp B w2 p { r with buf := v1 } [] fns) (hk : nm.Ok w2) => push_any X pp B w2 p _ _ fns hP nm hk (by simp)
  go_upto_region 3 with fail
  go_cut [] from 13 to 22 (fun wc => ∃ v2, PAt X pp B wc p { r with buf := v2 } [nm] fns ∧ Adv B w wc)
  case first =>
    go_region_with (go_at_call 60; ((with_reducible refine (hpush _ hP.drew (hnm.adv hA.drew)).mono ?_); rintro e w2 ⟨rfl, v2, hP2, hA2⟩))
    all_goals (go_wp2_with fail; go_meet; exact ⟨v2, hP2, hA.drew.trans hA2⟩)
  case rest =>
    obtain ⟨v2, hP2, hA2⟩ := hcut
    clear hpush hP hA k6 k7 hb
    go_wp2
    refine wp_loop_ghost_k (fun k a wr => ∃ (o : Int) (f : Nat → Value), DRel X pp B w r fns nm c vals e k wr ∧ a = (⟨#[.pointer (some ⟨pp, 0, none⟩), f 1, .int .u32 0, .int .i64 o, f 4, f 5, f 6, f 7, f 8, f 9, f 10, f 11, f 12, f 13, f 14, f 15, f 16, f 17, f 18, f 19, f 20, f 21, f 22, f 23, f 24, f 25, f 26, f 27, f 28, f 29, f 30, f 31, f 32, f 33, f 34, f 35, f 36, f 37, f 38, f 39, f 40, f 41, f 42, f 43, f 44, f 45, f 46, f 47, f 48, f 49, f 50, f 51, f 52, f 53, f 54, f 55, f 56, f 57, f 58, f 59, f 60, f 61, f 62, f 63, f 64, f 65, f 66, f 67, f 68, f 69, f 70, f 71, f 72, f 73, f 74, f 75, f 76, f 77, f 78, f 79, f 80, f 81, f 82, f 83, f 84, f 85, f 86, f 87, f 88, f 89, f 90, f 91, f 92, f 93, f 94, f 95, f 96, f 97, f 98, f 99, f 100, f 101, f 102, f 103, f 104, f 105, f 106, f 107, f 108, f 109, f 110, f 111, f 112, f 113, f 114, f 115, f 116, f 117, f 118, f 119, f 120, f 121, f 122, f 123, f 124, f 125, f 126, f 127, f 128, f 129, f 130, f 131, f 132, f 133, f 134, f 135, f 136, f 137, f 138, f 139, f 140, f 141, f 142, f 143, f 144, f 145, f 146, f 147, f 148, f 149, f 150, f 151, f 152, f 153, f 154, f 155, f 156, f 157, f 158, f 159, f 160, f 161, f 162, f 163, f 164, f 165, f 166, f 167, f 168, f 169, f 170, f 171, f 172, f 173, f 174, f 175, f 176, f 177, f 178, f 179, f 180, f 181, f 182, f 183, f 184, f 185, f 186, f 187, f 188, f 189, f 190, f 191, f 192, f 193, f 194, f 195, f 196, f 197, f 198, f 199, f 200, f 201, f 202, f 203, f 204, f 205, f 206, f 207, f 208, f 209, f 210, f 211, f 212, f 213, f 214, f 215, f 216, f 217, f 218, f 219, f 220, f 221, f 222, f 223, f 224, f 225, f 226, f 227, f 228, f 229, f 230, f 231, f 232, f 233, f 234, f 235, f 236, f 237, f 238, f 239, f 240, f 241, f 242, f 243, f 244, f 245, f 246, f 247, f 248, f 249, f 250, f 251, f 252, f 253, f 254, f 255, f 256, f 257, f 258, f 259, f 260, f 261, f 262, f 263, f 264, f 265, f 266, f 267, f 268, f 269, f 270, f 271, f 272, f 273, f 274, f 275, f 276, f 277, f 278, f 279, f 280, f 281, f 282, f 283, f 284, f 285, f 286, f 287, f 288, f 289, f 290, f 291, f 292, f 293, f 294, f 295, f 296, f 297, f 298, f 299, f 300, f 301, f 302, f 303, f 304, f 305, f 306, f 307, f 308, f 309, f 310, f 311, f 312, f 313, f 314, f 315, f 316, f 317, f 318, f 319, f 320, f 321, f 322, f 323, f 324, f 325, f 326, f 327, f 328, f 329, f 330, f 331, f 332, f 333, f 334, f 335, f 336, f 337, f 338, f 339, f 340, f 341, f 342, f 343, f 344, f 345, f 346, f 347, f 348, f 349, f 350, f 351, f 352, f 353, f 354, f 355, f 356, f 357, f 358, f 359, f 360, f 361, f 362, f 363, f 364, f 365, f 366, f 367, f 368, f 369, f 370, f 371, f 372, f 373, f 374, f 375, f 376, f 377, f 378, f 379, f 380, f 381, f 382, f 383, f 384, f 385, f 386, f 387, f 388, f 389, f 390, f 391, f 392, f 393, f 394, f 395, f 396, f 397, f 398, f 399, f 400, f 401, f 402, f 403, f 404, f 405, f 406, f 407, f 408, f 409, f 410, f 411, f 412, f 413, f 414, f 415, f 416, f 417, f 418, f 419, f 420, f 421, f 422, f 423, f 424, f 425, f 426, f 427, f 428, f 429, f 430, f 431, f 432, f 433, f 434, f 435, f 436, f 437, f 438, f 439, f 440, f 441, f 442, f 443, f 444, f 445, f 446, f 447, f 448, f 449, f 450, f 451, f 452], []⟩ : Act)) l.length ?_ ?_
    · refine frm_exists_int 3 ?_ (by kernel_rfl)
      exact ⟨l, p, 0, [nm], v2, r.pw, r.pc, rfl, HT.out, HBL.out, .inl ⟨rfl, HCV.out⟩, by simpa [hlv] using hP2, hA2, fun _ => hws, by simpa using hp0, by simp, Nat.zero_le _⟩
    · intro gk _ wr hinv
      obtain ⟨o, f, hrel, ha⟩ := hinv
      subst ha
      dsimp only
      intro _ _ _ _
      obtain ⟨l', p', lv, bl, v', pw', pc', hk, ht, hbal, hdi, hP, hA, hw1, hbl, hb0, hlp⟩ := hrel
      cases ht with
      | nil =>
        have hbig : e ≤ X.t.length := hP.lx.pl
        obtain ⟨rest, rfl, hrest⟩ : ∃ rest, bl = nm :: c :: rest ∧ rest.filter nb = vals := by
          rcases hdi with ⟨_, h⟩ | ⟨rest, h1, h2⟩
          · cases h
          · exact ⟨rest, h1, by simpa [Lx.toks] using h2⟩
        have hr0 : 0 < rest.length := by
          cases rest with
          | nil => exact absurd hrest.symm hv0
          | cons _ _ => exact Nat.succ_pos _
        cases hbal
        have HR := Lib.hid hrest
        have HHD := Lib.hid hbl
        clear hdi hw1 hbl hlp hrest
        have hP' : PAt X pp B wr e { r with buf := v', level := 0, pw := pw', pc := pc' } (nm :: c :: rest) fns := hP
        clear hP
        have hpop := pop_any X pp B wr e _ _ _ hP' false tE vE qE HE.out
        go_upto_region 5 with (go_at_call 44; (with_reducible refine hpop.mono ?_); rintro x1 w1 ⟨rfl, hP1, hA1⟩)
        clear hpop hP'
        refine wp_cut (fun a' wc => ∃ f : Nat → Value, (wc = w1) ∧
          a' = (⟨#[.pointer (some ⟨pp, 0, none⟩), f 1, .int .u32 0, .int .i64 o, .int .u32 tE, f 5, f 6, f 7, f 8, f 9, f 10, f 11, f 12, f 13, f 14, f 15, f 16, f 17, f 18, f 19, f 20, f 21, f 22, f 23, f 24, f 25, f 26, f 27, f 28, f 29, f 30, f 31, f 32, f 33, f 34, f 35, f 36, f 37, f 38, f 39, f 40, f 41, f 42, f 43, .bool true, f 45, f 46, f 47, f 48, f 49, f 50, f 51, f 52, f 53, f 54, f 55, f 56, f 57, f 58, f 59, f 60, f 61, f 62, f 63, f 64, f 65, f 66, f 67, f 68, f 69, f 70, f 71, f 72, f 73, f 74, f 75, f 76, f 77, f 78, f 79, f 80, f 81, f 82, f 83, f 84, f 85, f 86, f 87, f 88, f 89, f 90, f 91, f 92, f 93, f 94, f 95, f 96, f 97, f 98, f 99, f 100, f 101, f 102, f 103, f 104, f 105, f 106, f 107, f 108, f 109, f 110, f 111, f 112, f 113, f 114, f 115, f 116, f 117, f 118, f 119, f 120, f 121, f 122, f 123, f 124, f 125, f 126, f 127, f 128, f 129, f 130, f 131, f 132, f 133, f 134, f 135, f 136, f 137, f 138, f 139, f 140, f 141, f 142, f 143, f 144, f 145, f 146, f 147, f 148, f 149, f 150, f 151, f 152, f 153, f 154, f 155, f 156, f 157, f 158, f 159, f 160, f 161, f 162, f 163, f 164, f 165, f 166, f 167, f 168, f 169, f 170, f 171, f 172, f 173, f 174, f 175, f 176, f 177, f 178, f 179, f 180, f 181, f 182, f 183, f 184, f 185, f 186, f 187, f 188, f 189, f 190, f 191, f 192, f 193, f 194, f 195, f 196, f 197, f 198, f 199, f 200, f 201, f 202, f 203, f 204, f 205, f 206, f 207, f 208, f 209, f 210, f 211, f 212, f 213, f 214, f 215, f 216, f 217, f 218, f 219, f 220, f 221, f 222, f 223, f 224, f 225, f 226, f 227, f 228, f 229, f 230, f 231, f 232, f 233, f 234, f 235, f 236, f 237, f 238, f 239, f 240, f 241, f 242, f 243, f 244, f 245, f 246, f 247, f 248, f 249, f 250, f 251, f 252, f 253, f 254, f 255, f 256, f 257, f 258, f 259, f 260, f 261, f 262, f 263, f 264, f 265, f 266, f 267, f 268, f 269, f 270, f 271, f 272, f 273, f 274, f 275, f 276, f 277, f 278, f 279, f 280, f 281, f 282, f 283, f 284, f 285, f 286, f 287, f 288, f 289, f 290, f 291, f 292, f 293, f 294, f 295, f 296, f 297, f 298, f 299, f 300, f 301, f 302, f 303, f 304, f 305, f 306, f 307, f 308, f 309, f 310, f 311, f 312, f 313, f 314, f 315, f 316, f 317, f 318, f 319, f 320, f 321, f 322, f 323, f 324, f 325, f 326, f 327, f 328, f 329, f 330, f 331, f 332, f 333, f 334, f 335, f 336, f 337, f 338, f 339, f 340, f 341, f 342, f 343, f 344, f 345, f 346, f 347, f 348, f 349, f 350, f 351, f 352, f 353, f 354, f 355, f 356, f 357, f 358, f 359, f 360, f 361, f 362, f 363, f 364, f 365, f 366, f 367, f 368, f 369, f 370, f 371, f 372, f 373, f 374, f 375, f 376, f 377, f 378, f 379, f 380, f 381, f 382, f 383, f 384, f 385, f 386, f 387, f 388, f 389, f 390, f 391, f 392, f 393, f 394, f 395, f 396, f 397, f 398, f 399, f 400, f 401, f 402, f 403, f 404, f 405, f 406, f 407, f 408, f 409, f 410, f 411, f 412, f 413, f 414, f 415, f 416, f 417, f 418, f 419, f 420, f 421, f 422, f 423, f 424, f 425, f 426, f 427, f 428, f 429, f 430, f 431, f 432, f 433, f 434, f 435, f 436, f 437, f 438, f 439, f 440, f 441, f 442, f 443, f 444, f 445, f 446, f 447, f 448, f 449, f 450, f 451, f 452], []⟩ : Act)) ?_ ?_
        rotate_left
        · skip
          have k5 := hP1.f5
          intro _ _ _ _
          rcases HTE.out with rfl | rfl | rfl <;> (go_wp2; refine Met.intro ?_; go_step; exact frm_exists rfl (by kernel_rfl))
        rintro _ wc ⟨f1, rfl, rfl⟩
        dsimp only
        have hA0 := hA.trans hA1
        clear hA hA1
        have k4 := hP1.f4
        have kff := hP1.ff
        obtain ⟨bg, boff, bcap, hbv, hbcap⟩ := hP1.buf.shape (by simp)
        dsimp only at hbv k4
        subst hbv
        have c1 := (Buf.cell hP1.buf 1 (by simp)).1
        have c1' : wc.cell? ⟨bg, boff + 2, none⟩ = some (.int .u32 23) := by rw [← hc]; exact c1
        obtain ⟨n, hn⟩ : ∃ n, n = (nm :: c :: rest).length := ⟨_, rfl⟩
        have hn2 : n = rest.length + 2 := by rw [hn]; rfl
        rw [← hn] at k4 hbcap
        have hn3 : n ≤ 2 * e := by rw [hn]; exact HHD.out
        have hn1 : 1 < n := by omega
        have hn1' : ¬ n = 1 := by omega
        clear c1
        have hdrop := Buf.drop (hn ▸ hP1.buf : Buf wc B (.slice (some ⟨bg, boff, none⟩) n bcap) (nm :: c :: rest)) 2 (by omega)
        have h4 := hP1.set 4 (.slice (some ⟨bg, boff + 4, none⟩) (n - 2) (bcap - 2)) { r with buf := .slice (some ⟨bg, boff + 4, none⟩) (n - 2) (bcap - 2), level := 0, pw := isWS (byte X.t e), pc := false } rfl hdrop hP1.stk
        obtain ⟨hP2, hA2⟩ := h4
        have hA3 := hA0.trans hA2
        have HN := Lib.hid (show _ ∧ _ ∧ _ from ⟨hn, hn2, hn3⟩)
        have s1 : IntKind.i64.wrap ((1 : Int) + 1) = 2 := by decide
        have hn4 : 2 ≤ n := by omega
        have hn5 : ¬ bcap = 2 := by omega
        clear hn hn2 hn3 hdrop hA0 hA2
        go_wp2
        refine wp_loop_once fun _ => ?_
        go_wp2
        obtain ⟨hn, hn2, hn3⟩ := HN.out
        have hP3 : PAt X pp B _ qE { r with buf := .slice (some ⟨bg, boff + 4, none⟩) (n - 2) (bcap - 2), level := 0, pw := isWS (byte X.t e), pc := false } rest fns := hP2
        clear hP2
        refine wp_loop_ghost_k (fun k a wr => ∃ (f : Nat → Value), (∃ bl off cap, k = bl.length ∧ PAt X pp B wr qE { r with buf := .slice (some ⟨bg, off, none⟩) bl.length cap, level := 0, pw := isWS (byte X.t e), pc := false } bl fns ∧ Adv B w wr ∧ bl.filter nb = vals ∧ bl.length ≤ cap ∧ bl.length ≤ 2 * e) ∧ a = (⟨#[.pointer (some ⟨pp, 0, none⟩), f 1, .int .u32 0, f 3, .int .u32 tE, f 5, f 6, f 7, f 8, f 9, f 10, f 11, f 12, f 13, f 14, f 15, f 16, f 17, f 18, f 19, f 20, f 21, f 22, f 23, f 24, f 25, f 26, f 27, f 28, f 29, f 30, f 31, f 32, f 33, f 34, f 35, f 36, f 37, f 38, f 39, f 40, f 41, f 42, f 43, f 44, f 45, f 46, f 47, f 48, f 49, f 50, f 51, f 52, f 53, f 54, f 55, f 56, f 57, f 58, f 59, f 60, f 61, f 62, f 63, f 64, f 65, f 66, f 67, f 68, f 69, f 70, f 71, f 72, f 73, f 74, f 75, f 76, f 77, f 78, f 79, f 80, f 81, f 82, f 83, f 84, f 85, f 86, f 87, f 88, f 89, f 90, f 91, f 92, f 93, f 94, f 95, f 96, f 97, f 98, f 99, f 100, f 101, f 102, f 103, f 104, f 105, f 106, f 107, f 108, f 109, f 110, f 111, f 112, f 113, f 114, f 115, f 116, f 117, f 118, f 119, f 120, f 121, f 122, f 123, f 124, f 125, f 126, f 127, f 128, f 129, f 130, f 131, f 132, f 133, f 134, f 135, f 136, f 137, f 138, f 139, f 140, f 141, f 142, f 143, f 144, f 145, f 146, f 147, f 148, f 149, f 150, f 151, f 152, f 153, f 154, f 155, f 156, f 157, f 158, f 159, f 160, f 161, f 162, f 163, f 164, f 165, f 166, f 167, f 168, f 169, f 170, f 171, f 172, f 173, f 174, f 175, f 176, f 177, f 178, f 179, f 180, f 181, f 182, f 183, f 184, f 185, f 186, f 187, f 188, f 189, f 190, f 191, f 192, f 193, f 194, f 195, f 196, f 197, f 198, f 199, f 200, f 201, f 202, f 203, f 204, f 205, f 206, f 207, f 208, f 209, f 210, f 211, f 212, f 213, f 214, f 215, f 216, f 217, f 218, f 219, f 220, f 221, f 222, f 223, f 224, f 225, f 226, f 227, f 228, f 229, f 230, f 231, f 232, f 233, f 234, f 235, f 236, f 237, f 238, f 239, f 240, f 241, f 242, f 243, f 244, f 245, f 246, f 247, f 248, f 249, f 250, f 251, f 252, f 253, f 254, f 255, f 256, f 257, f 258, f 259, f 260, f 261, f 262, f 263, f 264, f 265, f 266, f 267, f 268, f 269, f 270, f 271, f 272, f 273, f 274, f 275, f 276, f 277, f 278, f 279, f 280, f 281, f 282, f 283, f 284, f 285, f 286, f 287, f 288, f 289, f 290, f 291, f 292, f 293, f 294, f 295, f 296, f 297, f 298, f 299, f 300, f 301, f 302, f 303, f 304, f 305, f 306, f 307, f 308, f 309, f 310, f 311, f 312, f 313, f 314, f 315, f 316, f 317, f 318, f 319, f 320, f 321, f 322, f 323, f 324, f 325, f 326, f 327, f 328, f 329, f 330, f 331, f 332, f 333, f 334, f 335, f 336, f 337, f 338, f 339, f 340, f 341, f 342, f 343, f 344, f 345, f 346, f 347, f 348, f 349, f 350, f 351, f 352, f 353, f 354, f 355, f 356, f 357, f 358, f 359, f 360, f 361, f 362, f 363, f 364, f 365, f 366, f 367, f 368, f 369, f 370, f 371, f 372, f 373, f 374, f 375, f 376, f 377, f 378, f 379, f 380, f 381, f 382, f 383, f 384, f 385, f 386, f 387, f 388, f 389, f 390, f 391, f 392, f 393, f 394, f 395, f 396, f 397, f 398, f 399, f 400, f 401, f 402, f 403, f 404, f 405, f 406, f 407, f 408, f 409, f 410, f 411, f 412, f 413, f 414, f 415, f 416, f 417, f 418, f 419, f 420, f 421, f 422, f 423, f 424, f 425, f 426, f 427, f 428, f 429, f 430, f 431, f 432, f 433, f 434, f 435, f 436, f 437, f 438, f 439, f 440, f 441, f 442, f 443, f 444, f 445, f 446, f 447, f 448, f 449, f 450, f 451, f 452], []⟩ : Act)) rest.length ?_ ?_
        · refine frm_exists ?_ (by kernel_rfl)
          have e2 : n - 2 = rest.length := by omega
          exact ⟨rest, boff + 4, bcap - 2, rfl, by rw [← e2]; exact hP3, hA3, HR.out, by omega, by omega⟩
        intro gk2 _ wr2 hinv
        obtain ⟨f2, ⟨bl, off, cap, hk2, hQ, hAQ, hfl, hcap, hb2⟩, ha⟩ := hinv
        subst ha
        dsimp only
        intro _ _ _ _
        have hl0 : 0 < bl.length := by
          cases bl with
          | nil => exact absurd hfl.symm hv0
          | cons _ _ => exact Nat.succ_pos _
        have k4 := hQ.f4
        have kff := hQ.ff
        dsimp only at k4
        have cc0 : wr2.cell? ⟨bg, off, none⟩ = some (.int .u32 bl[0].tt) := (Buf.cell hQ.buf 0 hl0).1
        obtain ⟨lt, hlt⟩ : ∃ lt, lt = bl[0].tt := ⟨_, rfl⟩
        rw [← hlt] at cc0
        have hl0' : (bl.length == 0) = false := beq_eq_false_iff_ne.2 (by omega)
        cases hl20 : (lt == 20) with
        | true =>
          have hfl2 : (bl.drop 1).filter nb = vals := by
            rw [← hfl]
            cases bl with
            | nil => rfl
            | cons a bl' =>
              have : nb a = false := by simp only [List.getElem_cons_zero] at hlt; rw [nb, ← hlt, bne, hl20]; rfl
              simp [this]
          have h1l : 1 ≤ bl.length := hl0
          obtain ⟨hQ2, hAQ2⟩ := hQ.set 4 (.slice (some ⟨bg, off + 2, none⟩) (bl.length - 1) (cap - 1)) { r with buf := .slice (some ⟨bg, off + 2, none⟩) (bl.length - 1) (cap - 1), level := 0, pw := isWS (byte X.t e), pc := false } rfl (Buf.drop hQ.buf 1 hl0) hQ.stk
          have HX := Lib.hid (show _ ∧ _ ∧ _ from ⟨hlt, hk2, hfl2⟩)
          have HQ := Lib.hid hQ2
          have hAQ3 := hAQ.trans hAQ2
          have ncap : ¬ cap = 1 := by
            rintro rfl
            cases bl with
            | nil => cases hl0
            | cons a bl' =>
              cases bl' with
              | nil => exact hv0 hfl2.symm
              | cons b bl'' => simp at hcap
          have l1 : 1 < bl.length := by
            rcases Nat.lt_or_ge 1 bl.length with h | h
            · exact h
            · rw [List.drop_eq_nil_of_le h] at hfl2; exact absurd hfl2.symm hv0
          clear hlt hk2 hfl hfl2 hAQ hAQ2 hQ2
          go_wp2
          refine Handed.intro (bl.length - 1) ?measure ?_
          rotate_left
          go_step
          refine frm_exists ?_ (by kernel_rfl)
          refine ⟨bl.drop 1, off + 2, cap - 1, by simp, by rw [List.length_drop]; exact HQ.out, hAQ3, HX.out.2.2, by simp; omega, by simp; omega⟩
          case measure => have := HX.out.2.1; omega
        | false =>
          have HX := Lib.hid (show _ ∧ _ ∧ _ ∧ _ from ⟨hlt, hk2, hfl, hb2⟩)
          clear hlt hk2 hfl hb2
          go_wp2
          obtain ⟨hlt, hk2, hfl, hb2⟩ := HX.out
          obtain ⟨r4, hr4⟩ : ∃ r4 : PR, r4 = { r with buf := .slice (some ⟨bg, off, none⟩) bl.length cap, level := 0, pw := isWS (byte X.t e), pc := false } := ⟨_, rfl⟩
          rw [← hr4] at hQ
          have hrb : r4.buf = .slice (some ⟨bg, off, none⟩) bl.length cap := by rw [hr4]
          have hrd : r4.data = nm.val := by rw [hr4]; exact hnd
          have HR4 := Lib.hid hr4
          have HFL := Lib.hid hfl
          clear hr4 k4 kff cc0 hl0' hl20 hlt hk2 hfl
          refine loop4 X pp B wr2 qE r4 bl fns hQ bg off cap hrb (by omega) _ _ tE (frm_is (by kernel_rfl)) ?_
          rintro _ w4 j cur ⟨f4, rfl⟩ hci hP4 hA4
          have hA5 := hAQ.trans hA4
          clear hQ hAQ hA4
          have k4 := hP4.f4
          rw [hrb] at k4
          obtain ⟨hc1, hc2, hc3⟩ := hci.len
          have hjc : j ≤ cap := by omega
          have HDN := Lib.hid hci.done
          clear hci
          have hbt := Buf.take (hrb ▸ hP4.buf : Buf w4 B (.slice (some ⟨bg, off, none⟩) bl.length cap) cur) j (by omega)
          obtain ⟨hP5, hA6⟩ := hP4.set 4 (.slice (some ⟨bg, off, none⟩) j cap) { r4 with buf := .slice (some ⟨bg, off, none⟩) j cap } rfl hbt hP4.stk
          have kff := hP4.ff
          have hA7 := hA5.trans hA6
          have m6 := hP5.f6
          have hok5 := hnm.adv hA7
          dsimp only at m6
          rw [hrd] at m6
          simp only [Tok.val] at m6
          have hlen : nm.bs.length ≤ 281474976710656 := by have := HNL.out; omega
          have hcp := copy_any _ (.slice (some ⟨nm.b, nm.off, none⟩) nm.bs.length nm.cap) nm.bs ⟨_, _, rfl, fun _ => ⟨_, _, rfl, hok5.lies⟩⟩ hlen
          clear hbt hA5 hA6 hP4
          go_wp2_with (first | (go_at_call 42; ((with_reducible refine hcp.mono ?_); rintro x2 w6 ⟨rfl, hrow, hbel⟩; have hP6 := hP5.below hbel; have hA8 := hA7.trans (Adv.ofBelow hbel hP5.hB); have p6 := hP6.f6; have p10 := hP6.f10; have pff := hP6.ff; have hrow2 : w6.heap[w4.heap.size]? = some (.cells (cellsOf nm.bs).toArray 5 (0, 0)) := (by simpa using hrow); have hLi : Lies w6 w4.heap.size 0 nm.bs := (fun i hi => by rw [cell_at hrow2, Nat.zero_add, List.getElem?_toArray]; exact cellsOf_get _ i hi))) | (go_at_call 71; ((with_reducible refine (lower_any _ _ _ _ nm.bs hLi HNC.out hlen).mono ?_); rintro x3 w7 ⟨rfl, rfl⟩)))
          obtain ⟨hP7, hA9⟩ := hP6.set 6 (.slice (some ⟨w4.heap.size, 0, none⟩) nm.bs.length nm.bs.length) { r4 with buf := .slice (some ⟨bg, off, none⟩) j cap, data := .slice (some ⟨w4.heap.size, 0, none⟩) nm.bs.length nm.bs.length } rfl hP6.buf hP6.stk
          obtain ⟨hP8, hA10⟩ := hP7.set 10 (.bool (tE == 31)) { r4 with buf := .slice (some ⟨bg, off, none⟩) j cap, data := .slice (some ⟨w4.heap.size, 0, none⟩) nm.bs.length nm.bs.length, pe := (tE == 31) } rfl hP7.buf hP7.stk
          have hrow3 := (hA9.trans hA10).u8 _ _ _ hrow2
          go_ret
          refine ⟨rfl, .slice (some ⟨bg, off, none⟩) j cap, .slice (some ⟨w4.heap.size, 0, none⟩) nm.bs.length nm.bs.length, cur.take j, ⟨some ⟨w4.heap.size, 0, none⟩, nm.bs.length, rfl, fun _ => ⟨w4.heap.size, 0, rfl, fun i hi => ?_⟩⟩, HDN.out.trans HFL.out, ?_, (hA8.trans hA9).trans hA10⟩
          · rw [cell_at hrow3, Nat.zero_add, List.getElem?_toArray]; exact cellsOf_get _ i hi
          · rw [HR4.out] at hP8; exact hP8
      | cons _ p1 tt q l2 _ hs hT h20 h32 hl2 =>
        have HPOP := Lib.hid (Pop.tk (X := X) p1 tt q hs hT h20 h32)
        have HGQ := Lib.hid (show p' < q ∧ tt ≠ 20 from ⟨by have := hT.gt; have := spanEnd_ge X.t isWS p'; omega, h20⟩)
        obtain ⟨tk, htk⟩ : ∃ tk, tk = X.tok tt p1 q := ⟨_, rfl⟩
        cases hbal with
        | cons _ lv2 _ _ hlv2 hbal2 =>
        obtain ⟨n24, n31, n30, n0⟩ := hlv2.facts
        obtain ⟨L, hL⟩ : ∃ L : Int, L = lv := ⟨_, rfl⟩
        obtain ⟨L2, hL2⟩ : ∃ L2 : Int, L2 = lv2 := ⟨_, rfl⟩
        rw [← hL] at hP
        have hpop := pop_any X pp B wr p' _ _ _ hP false tt _ q HPOP.out
        rw [← htk] at hpop
        have HTK := Lib.hid htk
        have hbig : p' ≤ X.t.length := hP.lx.pl
        have HLV : L + 1 < 1000000001 ∧ 0 ≤ L := by omega
        have HLV2 := Lib.hid (show ((tt = 28 ∨ tt = 26 ∨ tt = 2) ∧ L2 = L + 1) ∨ ((tt = 29 ∨ tt = 27) ∧ L = L2 + 1 ∧ 0 ≤ L2) ∨ ((tt == 28) = false ∧ (tt == 26) = false ∧ (tt == 2) = false ∧ (tt == 29) = false ∧ (tt == 27) = false ∧ L2 = L) from by
          dsimp only at hlv2
          cases hlv2 with
          | op d tt a => exact .inl ⟨a, by omega⟩
          | cl d tt a => exact .inr (.inl ⟨a, by omega, by omega⟩)
          | no d tt a1 a2 a3 a4 a5 a6 a7 a8 a9 => exact .inr (.inr ⟨a1, a2, a3, a4, a5, by omega⟩))
        have HBK := Lib.hid (show _ ∧ _ ∧ _ ∧ _ ∧ _ ∧ _ from ⟨hk, hdi, hbal2, hl2, hbl, hlp⟩)
        have HLL := Lib.hid (show _ ∧ _ from ⟨hL, hL2⟩)
        have HWW := Lib.hid hw1
        clear htk hlv2 hk hdi hbal2 hl2 hbl hlp hL hL2 hw1 hs hT h20 h32
        simp only [Tok.val] at hpop
        dsimp only at n24 n31 n30 n0
        go_upto_if 44 with (go_at_call 44; (with_reducible refine hpop.mono ?_); rintro e w1 ⟨rfl, hP1, hA1⟩)
        clear hpop
        refine wp_cut (fun a' wc => ∃ f : Nat → Value, (PAt X pp B wc q { r with buf := v', level := L2, pw := isWS (byte X.t p'), pc := false } bl fns ∧ Adv B w wc) ∧
          a' = (⟨#[.pointer (some ⟨pp, 0, none⟩), f 1, .int .u32 0, .int .i64 o, .int .u32 tt, .slice (some ⟨tk.b, tk.off, none⟩) tk.bs.length tk.cap, f 6, f 7, f 8, f 9, f 10, f 11, f 12, f 13, f 14, f 15, f 16, f 17, f 18, f 19, f 20, f 21, f 22, f 23, f 24, f 25, f 26, f 27, f 28, f 29, f 30, f 31, f 32, f 33, f 34, f 35, f 36, f 37, f 38, f 39, f 40, f 41, f 42, f 43, f 44, f 45, f 46, f 47, f 48, f 49, f 50, f 51, f 52, f 53, f 54, f 55, f 56, f 57, f 58, f 59, f 60, f 61, f 62, f 63, f 64, f 65, f 66, f 67, f 68, f 69, f 70, f 71, f 72, f 73, f 74, f 75, f 76, f 77, f 78, f 79, f 80, f 81, f 82, f 83, f 84, f 85, f 86, f 87, f 88, f 89, f 90, f 91, f 92, f 93, f 94, f 95, f 96, f 97, f 98, f 99, f 100, f 101, f 102, f 103, f 104, f 105, f 106, f 107, f 108, f 109, f 110, f 111, f 112, f 113, f 114, f 115, f 116, f 117, f 118, f 119, f 120, f 121, f 122, f 123, f 124, f 125, f 126, f 127, f 128, f 129, f 130, f 131, f 132, f 133, f 134, f 135, f 136, f 137, f 138, f 139, f 140, f 141, f 142, f 143, f 144, f 145, f 146, f 147, f 148, f 149, f 150, f 151, f 152, f 153, f 154, f 155, f 156, f 157, f 158, f 159, f 160, f 161, f 162, f 163, f 164, f 165, f 166, f 167, f 168, f 169, f 170, f 171, f 172, f 173, f 174, f 175, f 176, f 177, f 178, f 179, f 180, f 181, f 182, f 183, f 184, f 185, f 186, f 187, f 188, f 189, f 190, f 191, f 192, f 193, f 194, f 195, f 196, f 197, f 198, f 199, f 200, f 201, f 202, f 203, f 204, f 205, f 206, f 207, f 208, f 209, f 210, f 211, f 212, f 213, f 214, f 215, f 216, f 217, f 218, f 219, f 220, f 221, f 222, f 223, f 224, f 225, f 226, f 227, f 228, f 229, f 230, f 231, f 232, f 233, f 234, f 235, f 236, f 237, f 238, f 239, f 240, f 241, f 242, f 243, f 244, f 245, f 246, f 247, f 248, f 249, f 250, f 251, f 252, f 253, f 254, f 255, f 256, f 257, f 258, f 259, f 260, f 261, f 262, f 263, f 264, f 265, f 266, f 267, f 268, f 269, f 270, f 271, f 272, f 273, f 274, f 275, f 276, f 277, f 278, f 279, f 280, f 281, f 282, f 283, f 284, f 285, f 286, f 287, f 288, f 289, f 290, f 291, f 292, f 293, f 294, f 295, f 296, f 297, f 298, f 299, f 300, f 301, f 302, f 303, f 304, f 305, f 306, f 307, f 308, f 309, f 310, f 311, f 312, f 313, f 314, f 315, f 316, f 317, f 318, f 319, f 320, f 321, f 322, f 323, f 324, f 325, f 326, f 327, f 328, f 329, f 330, f 331, f 332, f 333, f 334, f 335, f 336, f 337, f 338, f 339, f 340, f 341, f 342, f 343, f 344, f 345, f 346, f 347, f 348, f 349, f 350, f 351, f 352, f 353, f 354, f 355, f 356, f 357, f 358, f 359, f 360, f 361, f 362, f 363, f 364, f 365, f 366, f 367, f 368, f 369, f 370, f 371, f 372, f 373, f 374, f 375, f 376, f 377, f 378, f 379, f 380, f 381, f 382, f 383, f 384, f 385, f 386, f 387, f 388, f 389, f 390, f 391, f 392, f 393, f 394, f 395, f 396, f 397, f 398, f 399, f 400, f 401, f 402, f 403, f 404, f 405, f 406, f 407, f 408, f 409, f 410, f 411, f 412, f 413, f 414, f 415, f 416, f 417, f 418, f 419, f 420, f 421, f 422, f 423, f 424, f 425, f 426, f 427, f 428, f 429, f 430, f 431, f 432, f 433, f 434, f 435, f 436, f 437, f 438, f 439, f 440, f 441, f 442, f 443, f 444, f 445, f 446, f 447, f 448, f 449, f 450, f 451, f 452], []⟩ : Act)) ?_ ?_
        rotate_left
        · skip
          intro _ _ _ _
          have k5 := hP1.f5
          have kf := hP1.ff
          rcases HLV2.out with ⟨a, e⟩ | ⟨a, e, e0⟩ | ⟨a1, a2, a3, a4, a5, e⟩
          · have s1 : IntKind.i64.wrap (L + 1) = L2 := by rw [IntWalk.i64_in _ (by omega)]; omega
            obtain ⟨hP2, hA2⟩ := hP1.set 5 (.int .i64 L2) { r with buf := v', level := L2, pw := isWS (byte X.t p'), pc := false } rfl hP1.buf hP1.stk
            have hA3 := (hA.trans hA1).trans hA2
            clear e
            rcases a with rfl | rfl | rfl <;> (go_wp2; refine Met.intro ?_; go_step; exact frm_exists ⟨hP2, hA3⟩ (by kernel_rfl))
          · have s1 : IntKind.i64.wrap (L - 1) = L2 := by rw [IntWalk.i64_in _ (by omega)]; omega
            have s2 : (L == 0) = false := beq_eq_false_iff_ne.2 (by omega)
            obtain ⟨hP2, hA2⟩ := hP1.set 5 (.int .i64 L2) { r with buf := v', level := L2, pw := isWS (byte X.t p'), pc := false } rfl hP1.buf hP1.stk
            have hA3 := (hA.trans hA1).trans hA2
            clear e e0
            rcases a with rfl | rfl <;> (go_wp2; refine Met.intro ?_; go_step; exact frm_exists ⟨hP2, hA3⟩ (by kernel_rfl))
          · have hA3 := hA.trans hA1
            subst e
            go_wp2
            refine Met.intro ?_
            go_step
            exact frm_exists ⟨hP1, hA3⟩ (by kernel_rfl)
        intro _ wc hinv
        obtain ⟨f2, ⟨hP2, hA2⟩, ha⟩ := hinv
        subst ha
        dsimp only
        have k4 := hP2.f4
        have k9 := hP2.f9
        have k11 := hP2.f11
        obtain ⟨bg, boff, bcap, hbv, hbcap⟩ := hP2.buf.shape hb0
        have hP2' := hP2
        dsimp only at hbv k4 k9 k11
        subst hbv
        obtain ⟨m, hm⟩ : ∃ m, bl.length = m + 1 := ⟨bl.length - 1, by omega⟩
        have hlast := (Buf.cell hP2.buf m (by omega)).1
        obtain ⟨lt, hlt⟩ : ∃ lt, lt = bl[m].tt := ⟨_, rfl⟩
        rw [← hlt] at hlast
        go_upto_region 53 with fail
        refine wp_cut (fun a' wd => ∃ (b : Bool) (f : Nat → Value), (PAt X pp B wd q { r with buf := .slice (some ⟨bg, boff, none⟩) bl.length bcap, level := L2, pw := isWS (byte X.t p'), pc := false } bl fns ∧ Adv B w wd ∧ (b = true → isWS (byte X.t p') = true)) ∧
          a' = (⟨#[.pointer (some ⟨pp, 0, none⟩), f 1, .int .u32 0, .int .i64 o, .int .u32 tt, .slice (some ⟨tk.b, tk.off, none⟩) tk.bs.length tk.cap, f 6, f 7, f 8, f 9, f 10, f 11, f 12, f 13, f 14, f 15, f 16, f 17, f 18, f 19, f 20, f 21, f 22, f 23, f 24, f 25, f 26, f 27, f 28, f 29, f 30, f 31, f 32, f 33, f 34, f 35, f 36, f 37, f 38, f 39, f 40, f 41, f 42, f 43, f 44, f 45, f 46, f 47, f 48, f 49, f 50, f 51, f 52, f 53, f 54, f 55, f 56, f 57, f 58, f 59, f 60, f 61, f 62, f 63, f 64, f 65, f 66, f 67, f 68, f 69, f 70, f 71, f 72, f 73, f 74, f 75, f 76, f 77, f 78, f 79, f 80, f 81, f 82, f 83, f 84, f 85, f 86, f 87, f 88, f 89, f 90, f 91, f 92, f 93, f 94, f 95, f 96, f 97, f 98, f 99, f 100, f 101, f 102, f 103, f 104, f 105, f 106, f 107, f 108, f 109, f 110, f 111, f 112, f 113, f 114, f 115, f 116, f 117, f 118, f 119, f 120, f 121, f 122, f 123, f 124, f 125, f 126, f 127, f 128, f 129, f 130, f 131, f 132, f 133, f 134, f 135, f 136, f 137, f 138, f 139, f 140, f 141, f 142, f 143, f 144, f 145, f 146, f 147, f 148, f 149, f 150, f 151, f 152, f 153, f 154, f 155, f 156, f 157, f 158, f 159, f 160, f 161, f 162, f 163, f 164, f 165, f 166, f 167, f 168, f 169, f 170, f 171, f 172, f 173, f 174, f 175, f 176, f 177, f 178, f 179, f 180, f 181, f 182, f 183, f 184, f 185, f 186, f 187, f 188, f 189, f 190, f 191, f 192, f 193, f 194, f 195, f 196, f 197, f 198, f 199, f 200, f 201, f 202, f 203, f 204, f 205, f 206, f 207, f 208, f 209, f 210, f 211, f 212, f 213, f 214, f 215, f 216, f 217, f 218, f 219, f 220, f 221, f 222, f 223, f 224, f 225, f 226, f 227, f 228, f 229, f 230, f 231, f 232, f 233, f 234, f 235, f 236, f 237, f 238, f 239, f 240, f 241, f 242, f 243, f 244, f 245, f 246, f 247, f 248, f 249, f 250, f 251, f 252, f 253, f 254, f 255, f 256, f 257, f 258, f 259, f 260, f 261, f 262, f 263, f 264, f 265, f 266, f 267, f 268, f 269, f 270, f 271, f 272, f 273, f 274, f 275, f 276, f 277, f 278, f 279, f 280, f 281, f 282, f 283, f 284, f 285, f 286, f 287, f 288, f 289, f 290, f 291, f 292, f 293, f 294, f 295, f 296, f 297, f 298, f 299, f 300, f 301, f 302, f 303, f 304, f 305, f 306, f 307, f 308, f 309, f 310, f 311, f 312, f 313, f 314, f 315, f 316, f 317, f 318, f 319, f 320, f 321, f 322, f 323, f 324, f 325, f 326, f 327, f 328, f 329, f 330, f 331, f 332, f 333, f 334, f 335, f 336, f 337, f 338, f 339, f 340, f 341, f 342, f 343, f 344, f 345, f 346, f 347, f 348, f 349, f 350, f 351, f 352, f 353, f 354, f 355, f 356, f 357, f 358, f 359, f 360, f 361, f 362, f 363, f 364, f 365, f 366, f 367, f 368, f 369, f 370, f 371, f 372, f 373, f 374, f 375, f 376, f 377, f 378, f 379, f 380, f 381, f 382, f 383, f 384, f 385, f 386, f 387, f 388, f 389, f 390, f 391, f 392, f 393, f 394, f 395, f 396, f 397, f 398, f 399, f 400, f 401, f 402, f 403, f 404, f 405, f 406, f 407, f 408, f 409, f 410, f 411, f 412, f 413, f 414, f 415, f 416, f 417, f 418, f 419, f 420, f 421, f 422, f 423, f 424, f 425, f 426, f 427, f 428, f 429, f 430, f 431, .bool b, f 433, f 434, f 435, f 436, f 437, f 438, f 439, f 440, f 441, f 442, f 443, f 444, f 445, f 446, f 447, f 448, f 449, f 450, f 451, f 452], []⟩ : Act)) ?_ ?_
        rotate_left
        · skip
          intro _ _ _ _
          cases hw : isWS (byte X.t p') with
          | false =>
            rw [hw] at k9
            go_quiet (fail)
            go_wp2_with fail
            refine Met.intro ?_
            go_step
            exact ⟨false, frm_exists ⟨hP2.drewN _, hA2.drewN _, fun h => absurd h Bool.false_ne_true⟩ (by kernel_rfl)⟩
          | true =>
            rw [hw] at k9
            have s1 : IntKind.i64.wrap ((bl.length : Int) - 1) = (m : Int) := by rw [IntWalk.i64_in _ (by have := hP2.lx.pl; have := HBK.out; omega)]; omega
            have s2 : m < bl.length := by omega
            have HM := Lib.hid hm
            clear hm hlt
            cases hl20 : (lt == 20) with
            | false =>
              have hl20' : (lt != 20) = true := by rw [bne, hl20]; rfl
              go_quiet (fail)
              go_wp2_with fail
              refine Met.intro ?_
              go_step
              exact ⟨true, frm_exists ⟨hP2.drewN _, hA2.drewN _, fun _ => hw⟩ (by kernel_rfl)⟩
            | true =>
              have hl20' : (lt != 20) = false := by rw [bne, hl20]; rfl
              go_quiet (fail)
              go_wp2_with fail
              refine Met.intro ?_
              go_step
              exact ⟨false, frm_exists ⟨hP2.drewN _, hA2.drewN _, fun h => absurd h Bool.false_ne_true⟩ (by kernel_rfl)⟩
        intro _ wd hinv
        obtain ⟨b, f3, ⟨hP3, hA3, hbw⟩, ha⟩ := hinv
        subst ha
        dsimp only
        have HBW := Lib.hid hbw
        clear hbw k4 k9 k11 hlast hP2' hA2 hP2
        go_upto_if 432 with fail
        refine wp_cut (fun a' we => ∃ f : Nat → Value, (∃ wsl v'', wsl.filter nb = [] ∧ wsl.length ≤ 1 ∧ (wsl = [] ∨ isWS (byte X.t p') = true) ∧ PAt X pp B we q { r with buf := v'', level := L2, pw := isWS (byte X.t p'), pc := false } (bl ++ wsl) fns ∧ Adv B w we) ∧
          a' = (⟨#[.pointer (some ⟨pp, 0, none⟩), f 1, .int .u32 0, .int .i64 o, .int .u32 tt, .slice (some ⟨tk.b, tk.off, none⟩) tk.bs.length tk.cap, f 6, f 7, f 8, f 9, f 10, f 11, f 12, f 13, f 14, f 15, f 16, f 17, f 18, f 19, f 20, f 21, f 22, f 23, f 24, f 25, f 26, f 27, f 28, f 29, f 30, f 31, f 32, f 33, f 34, f 35, f 36, f 37, f 38, f 39, f 40, f 41, f 42, f 43, f 44, f 45, f 46, f 47, f 48, f 49, f 50, f 51, f 52, f 53, f 54, f 55, f 56, f 57, f 58, f 59, f 60, f 61, f 62, f 63, f 64, f 65, f 66, f 67, f 68, f 69, f 70, f 71, f 72, f 73, f 74, f 75, f 76, f 77, f 78, f 79, f 80, f 81, f 82, f 83, f 84, f 85, f 86, f 87, f 88, f 89, f 90, f 91, f 92, f 93, f 94, f 95, f 96, f 97, f 98, f 99, f 100, f 101, f 102, f 103, f 104, f 105, f 106, f 107, f 108, f 109, f 110, f 111, f 112, f 113, f 114, f 115, f 116, f 117, f 118, f 119, f 120, f 121, f 122, f 123, f 124, f 125, f 126, f 127, f 128, f 129, f 130, f 131, f 132, f 133, f 134, f 135, f 136, f 137, f 138, f 139, f 140, f 141, f 142, f 143, f 144, f 145, f 146, f 147, f 148, f 149, f 150, f 151, f 152, f 153, f 154, f 155, f 156, f 157, f 158, f 159, f 160, f 161, f 162, f 163, f 164, f 165, f 166, f 167, f 168, f 169, f 170, f 171, f 172, f 173, f 174, f 175, f 176, f 177, f 178, f 179, f 180, f 181, f 182, f 183, f 184, f 185, f 186, f 187, f 188, f 189, f 190, f 191, f 192, f 193, f 194, f 195, f 196, f 197, f 198, f 199, f 200, f 201, f 202, f 203, f 204, f 205, f 206, f 207, f 208, f 209, f 210, f 211, f 212, f 213, f 214, f 215, f 216, f 217, f 218, f 219, f 220, f 221, f 222, f 223, f 224, f 225, f 226, f 227, f 228, f 229, f 230, f 231, f 232, f 233, f 234, f 235, f 236, f 237, f 238, f 239, f 240, f 241, f 242, f 243, f 244, f 245, f 246, f 247, f 248, f 249, f 250, f 251, f 252, f 253, f 254, f 255, f 256, f 257, f 258, f 259, f 260, f 261, f 262, f 263, f 264, f 265, f 266, f 267, f 268, f 269, f 270, f 271, f 272, f 273, f 274, f 275, f 276, f 277, f 278, f 279, f 280, f 281, f 282, f 283, f 284, f 285, f 286, f 287, f 288, f 289, f 290, f 291, f 292, f 293, f 294, f 295, f 296, f 297, f 298, f 299, f 300, f 301, f 302, f 303, f 304, f 305, f 306, f 307, f 308, f 309, f 310, f 311, f 312, f 313, f 314, f 315, f 316, f 317, f 318, f 319, f 320, f 321, f 322, f 323, f 324, f 325, f 326, f 327, f 328, f 329, f 330, f 331, f 332, f 333, f 334, f 335, f 336, f 337, f 338, f 339, f 340, f 341, f 342, f 343, f 344, f 345, f 346, f 347, f 348, f 349, f 350, f 351, f 352, f 353, f 354, f 355, f 356, f 357, f 358, f 359, f 360, f 361, f 362, f 363, f 364, f 365, f 366, f 367, f 368, f 369, f 370, f 371, f 372, f 373, f 374, f 375, f 376, f 377, f 378, f 379, f 380, f 381, f 382, f 383, f 384, f 385, f 386, f 387, f 388, f 389, f 390, f 391, f 392, f 393, f 394, f 395, f 396, f 397, f 398, f 399, f 400, f 401, f 402, f 403, f 404, f 405, f 406, f 407, f 408, f 409, f 410, f 411, f 412, f 413, f 414, f 415, f 416, f 417, f 418, f 419, f 420, f 421, f 422, f 423, f 424, f 425, f 426, f 427, f 428, f 429, f 430, f 431, f 432, f 433, f 434, f 435, f 436, f 437, f 438, f 439, f 440, f 441, f 442, f 443, f 444, f 445, f 446, f 447, f 448, f 449, f 450, f 451, f 452], []⟩ : Act)) ?_ ?_
        rotate_left
        · skip
          intro _ _ _ _
          cases b with
          | false =>
            go_wp2
            refine Met.intro ?_
            go_step
            exact frm_exists ⟨[], _, rfl, Nat.zero_le _, .inl rfl, by rw [List.append_nil]; exact hP3, hA3⟩ (by kernel_rfl)
          | true =>
            have hw := HBW.out rfl
            have hl1 : bl.length ≤ 1000000 := by have := hP3.lx.pl; have := HBK.out; omega
            have hpu := fun (w9 : World) (r9 : PR) (g : Nat) (hP : PAt X pp B w9 q r9 bl fns) (hk : (Tok.mk 20 g 0 1 [32]).Ok w9) => push_any X pp B w9 q r9 bl fns hP (Tok.mk 20 g 0 1 [32]) hk hl1
            go_wp2_with (first | (go_at_call 77; ((with_reducible refine (ws_bytes wd).mono ?_); rintro e w2 ⟨g, rfl, hok, hb⟩; have hP4 := hP3.below hb; have hA4 := hA3.trans (Adv.ofBelow hb hP3.hB))) | (go_at_call 60; ((refine (hpu _ _ _ hP4 (hok 20)).mono ?_); rintro e w3 ⟨rfl, v3, hP5, hA5⟩)))
            refine Met.intro ?_
            go_step
            exact frm_exists ⟨[Tok.mk 20 g 0 1 [32]], _, rfl, Nat.le_refl _, .inr hw, hP5, hA4.trans hA5⟩ (by kernel_rfl)
        intro _ we hinv
        obtain ⟨f4, ⟨wsl, v'', hws1, hws2, hws3, hP4, hA4⟩, ha⟩ := hinv
        subst ha
        dsimp only
        obtain ⟨hk, hdi, hbal2, hl2, hbl, hlp⟩ := HBK.out
        obtain ⟨hL, hL2⟩ := HLL.out
        have hpl := hP4.lx.pl
        have hkd : tk = X.tok tt p1 q := HTK.out
        have hok : tk.Ok we := by rw [hkd]; exact hP4.toPB.tok tt hpl
        have htt : tk.tt = tt := by rw [hkd]; rfl
        have hgq := HGQ.out
        have hpu := push_any X pp B we q _ _ fns hP4 tk hok (by rw [List.length_append]; omega)
        rw [htt] at hpu
        have hdi2 := hdi.step wsl hws1 (fun e => hws3.elim id fun hw => by have := HWW.out e; rw [hw] at this; cases this) (by exact hgq.2)
        simp only [← hkd] at hdi2
        have HF := Lib.hid (show gk = l2.length + 1 ∧ DI X nm c vals (bl ++ wsl ++ [tk]) l2 ∧ Bal lv2 l2 ∧ Toks X q l2 e ∧ (bl ++ wsl ++ [tk]).length ≤ 2 * q ∧ lv2 ≤ q ∧ L2 = lv2 ∧ bl ++ wsl ++ [tk] ≠ [nm] from
          ⟨hk, hdi2, hbal2, hl2, by rw [List.length_append, List.length_append, List.length_singleton]; omega, by have := HLV2.out; omega, hL2,
            fun e => by have := congrArg List.length e; rw [List.length_append, List.length_append, List.length_singleton, List.length_singleton] at this; omega⟩)
        simp only [Tok.val] at hpu
        clear hk hdi hbal2 hl2 hbl hlp hL hL2 hkd htt hdi2 hws1 hws2 hws3 hgq
        have HOF := fun (w9 : World) (r9 : PR) (bl9 : List Tok) (h9 : PAt X pp B w9 q r9 bl9 fns) => offset_any X w9 w9 q q h9.lx
        cases ho : (o == 0) with
        | false =>
          go_wp2_with (first | (go_at_call 60; ((with_reducible refine hpu.mono ?_); rintro e w3 ⟨rfl, v3, hP5, hA5⟩)))
          obtain ⟨g1, g2, g3, g4, g5, g6, g7, g8⟩ := HF.out
          rw [g7] at hP5
          refine Handed.intro l2.length ?measure ?_
          rotate_left
          go_step
          refine frm_exists_int 3 ?_ (by kernel_rfl)
          exact ⟨l2, q, lv2, _, v3, _, _, rfl, g4, g3, g2, hP5, hA4.trans hA5, fun e => absurd e g8, g5, by rw [List.length_append, List.length_singleton]; omega, g6⟩
          case measure => omega
        | true =>
          go_wp2_with (first | (go_at_call 60; ((with_reducible refine hpu.mono ?_); rintro e w3 ⟨rfl, v3, hP5, hA5⟩); have m0 := hP5.f0; have m1 := hP5.lx.c0) | (go_at_call 59; ((with_reducible refine (HOF _ _ _ hP5).mono ?_); rintro e w4 ⟨rfl, rfl⟩)))
          obtain ⟨g1, g2, g3, g4, g5, g6, g7, g8⟩ := HF.out
          rw [g7] at hP5
          refine Handed.intro l2.length ?measure ?_
          rotate_left
          go_step
          refine frm_exists_int 3 ?_ (by kernel_rfl)
          exact ⟨l2, q, lv2, _, v3, _, _, rfl, g4, g3, g2, hP5, hA4.trans hA5, fun e => absurd e g8, g5, by rw [List.length_append, List.length_singleton]; omega, g6⟩
          case measure => omega
end
end Go.Proofs.YtlglijnaeaonpaaGreatDoor.Css
