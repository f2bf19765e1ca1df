/- A declaration's blanks are taken out: an element is moved. -/
import Derived.Test.YtlglijnaeaonpaaGreatDoorMy
set_option linter.all false
/- A declaration's blanks are taken out: an element is moved. -/
namespace Go.Proofs.YtlglijnaeaonpaaGreatDoor.Css
open Go.RowKit

section
variable (X : Lx) (pp B : Nat) (w : World) (qE : Nat) (r4 : PR) (bl cur : List Tok) (fns : List Nat) (h : PAt X pp B w qE r4 cur fns) (bg off n cap : Nat) (hrb : r4.buf = .slice (some ⟨bg, off, none⟩) n cap)
include h hrb

set_option maxRecDepth 100000 in
set_option maxHeartbeats 4000000 in
theorem copy274 (Q : Exit → Act → World → Prop) (a : Act) (tE : Int) (j q : Nat) (b : Bool) (hb : decide ((j : Int) < (q : Int)) = b) (ha : ∃ f : Nat → Value, a = (⟨#[.pointer (some ⟨pp, 0, none⟩), f 1, .int .u32 0, f 3, .int .u32 tE, f 5, f 6, .int .i64 (j : Nat), .int .i64 (q : Nat), f 9, f 10, f 11, f 12, f 13, f 14, f 15, f 16, f 17, f 18, f 19, f 20, f 21, f 22, f 23, f 24, f 25, f 26, f 27, f 28, f 29, f 30, f 31, f 32, f 33, f 34, f 35, f 36, f 37, f 38, f 39, f 40, f 41, f 42, f 43, f 44, f 45, f 46, f 47, f 48, f 49, f 50, f 51, f 52, f 53, f 54, f 55, f 56, f 57, f 58, f 59, f 60, f 61, f 62, f 63, f 64, f 65, f 66, f 67, f 68, f 69, f 70, f 71, f 72, f 73, f 74, f 75, f 76, f 77, f 78, f 79, f 80, f 81, f 82, f 83, f 84, f 85, f 86, f 87, f 88, f 89, f 90, f 91, f 92, f 93, f 94, f 95, f 96, f 97, f 98, f 99, f 100, f 101, f 102, f 103, f 104, f 105, f 106, f 107, f 108, f 109, f 110, f 111, f 112, f 113, f 114, f 115, f 116, f 117, f 118, f 119, f 120, f 121, f 122, f 123, f 124, f 125, f 126, f 127, f 128, f 129, f 130, f 131, f 132, f 133, f 134, f 135, f 136, f 137, f 138, f 139, f 140, f 141, f 142, f 143, f 144, f 145, f 146, f 147, f 148, f 149, f 150, f 151, f 152, f 153, f 154, f 155, f 156, f 157, f 158, f 159, f 160, f 161, f 162, f 163, f 164, f 165, f 166, f 167, f 168, f 169, f 170, f 171, f 172, f 173, f 174, f 175, f 176, f 177, f 178, f 179, f 180, f 181, f 182, f 183, f 184, f 185, f 186, f 187, f 188, f 189, f 190, f 191, f 192, f 193, f 194, f 195, f 196, f 197, f 198, f 199, f 200, f 201, f 202, f 203, f 204, f 205, f 206, f 207, f 208, f 209, f 210, f 211, f 212, f 213, f 214, f 215, f 216, f 217, f 218, f 219, f 220, f 221, f 222, f 223, f 224, f 225, f 226, f 227, f 228, f 229, f 230, f 231, f 232, f 233, f 234, f 235, f 236, f 237, f 238, f 239, f 240, f 241, f 242, f 243, f 244, f 245, f 246, f 247, f 248, f 249, f 250, f 251, f 252, f 253, f 254, f 255, f 256, f 257, f 258, f 259, f 260, f 261, f 262, f 263, f 264, f 265, f 266, f 267, f 268, f 269, f 270, f 271, f 272, f 273, .bool b, f 275, f 276, f 277, f 278, f 279, f 280, f 281, f 282, f 283, f 284, f 285, f 286, f 287, f 288, f 289, f 290, f 291, f 292, f 293, f 294, f 295, f 296, f 297, f 298, f 299, f 300, f 301, f 302, f 303, f 304, f 305, f 306, f 307, f 308, f 309, f 310, f 311, f 312, f 313, f 314, f 315, f 316, f 317, f 318, f 319, f 320, f 321, f 322, f 323, f 324, f 325, f 326, f 327, f 328, f 329, f 330, f 331, f 332, f 333, f 334, f 335, f 336, f 337, f 338, f 339, f 340, f 341, f 342, f 343, f 344, f 345, f 346, f 347, f 348, f 349, f 350, f 351, f 352, f 353, f 354, f 355, f 356, f 357, f 358, f 359, f 360, f 361, f 362, f 363, f 364, f 365, f 366, f 367, f 368, f 369, f 370, f 371, f 372, f 373, f 374, f 375, f 376, f 377, f 378, f 379, f 380, f 381, f 382, f 383, f 384, f 385, f 386, f 387, f 388, f 389, f 390, f 391, f 392, f 393, f 394, f 395, f 396, f 397, f 398, f 399, f 400, f 401, f 402, f 403, f 404, f 405, f 406, f 407, f 408, f 409, f 410, f 411, f 412, f 413, f 414, f 415, f 416, f 417, f 418, f 419, f 420, f 421, f 422, f 423, f 424, f 425, f 426, f 427, f 428, f 429, f 430, f 431, f 432, f 433, f 434, f 435, f 436, f 437, f 438, f 439, f 440, f 441, f 442, f 443, f 444, f 445, f 446, f 447, f 448, f 449, f 450, f 451, f 452], []⟩ : Act))
    (hci : CI bl cur j q) (hql : q < bl.length)
    (hQ : ∀ (a' : Act) (w' : World) (cur2 : List Tok), (∃ f : Nat → Value, a' = (⟨#[.pointer (some ⟨pp, 0, none⟩), f 1, .int .u32 0, f 3, .int .u32 tE, f 5, f 6, .int .i64 (j : Nat), .int .i64 (q : Nat), f 9, f 10, f 11, f 12, f 13, f 14, f 15, f 16, f 17, f 18, f 19, f 20, f 21, f 22, f 23, f 24, f 25, f 26, f 27, f 28, f 29, f 30, f 31, f 32, f 33, f 34, f 35, f 36, f 37, f 38, f 39, f 40, f 41, f 42, f 43, f 44, f 45, f 46, f 47, f 48, f 49, f 50, f 51, f 52, f 53, f 54, f 55, f 56, f 57, f 58, f 59, f 60, f 61, f 62, f 63, f 64, f 65, f 66, f 67, f 68, f 69, f 70, f 71, f 72, f 73, f 74, f 75, f 76, f 77, f 78, f 79, f 80, f 81, f 82, f 83, f 84, f 85, f 86, f 87, f 88, f 89, f 90, f 91, f 92, f 93, f 94, f 95, f 96, f 97, f 98, f 99, f 100, f 101, f 102, f 103, f 104, f 105, f 106, f 107, f 108, f 109, f 110, f 111, f 112, f 113, f 114, f 115, f 116, f 117, f 118, f 119, f 120, f 121, f 122, f 123, f 124, f 125, f 126, f 127, f 128, f 129, f 130, f 131, f 132, f 133, f 134, f 135, f 136, f 137, f 138, f 139, f 140, f 141, f 142, f 143, f 144, f 145, f 146, f 147, f 148, f 149, f 150, f 151, f 152, f 153, f 154, f 155, f 156, f 157, f 158, f 159, f 160, f 161, f 162, f 163, f 164, f 165, f 166, f 167, f 168, f 169, f 170, f 171, f 172, f 173, f 174, f 175, f 176, f 177, f 178, f 179, f 180, f 181, f 182, f 183, f 184, f 185, f 186, f 187, f 188, f 189, f 190, f 191, f 192, f 193, f 194, f 195, f 196, f 197, f 198, f 199, f 200, f 201, f 202, f 203, f 204, f 205, f 206, f 207, f 208, f 209, f 210, f 211, f 212, f 213, f 214, f 215, f 216, f 217, f 218, f 219, f 220, f 221, f 222, f 223, f 224, f 225, f 226, f 227, f 228, f 229, f 230, f 231, f 232, f 233, f 234, f 235, f 236, f 237, f 238, f 239, f 240, f 241, f 242, f 243, f 244, f 245, f 246, f 247, f 248, f 249, f 250, f 251, f 252, f 253, f 254, f 255, f 256, f 257, f 258, f 259, f 260, f 261, f 262, f 263, f 264, f 265, f 266, f 267, f 268, f 269, f 270, f 271, f 272, f 273, f 274, f 275, f 276, f 277, f 278, f 279, f 280, f 281, f 282, f 283, f 284, f 285, f 286, f 287, f 288, f 289, f 290, f 291, f 292, f 293, f 294, f 295, f 296, f 297, f 298, f 299, f 300, f 301, f 302, f 303, f 304, f 305, f 306, f 307, f 308, f 309, f 310, f 311, f 312, f 313, f 314, f 315, f 316, f 317, f 318, f 319, f 320, f 321, f 322, f 323, f 324, f 325, f 326, f 327, f 328, f 329, f 330, f 331, f 332, f 333, f 334, f 335, f 336, f 337, f 338, f 339, f 340, f 341, f 342, f 343, f 344, f 345, f 346, f 347, f 348, f 349, f 350, f 351, f 352, f 353, f 354, f 355, f 356, f 357, f 358, f 359, f 360, f 361, f 362, f 363, f 364, f 365, f 366, f 367, f 368, f 369, f 370, f 371, f 372, f 373, f 374, f 375, f 376, f 377, f 378, f 379, f 380, f 381, f 382, f 383, f 384, f 385, f 386, f 387, f 388, f 389, f 390, f 391, f 392, f 393, f 394, f 395, f 396, f 397, f 398, f 399, f 400, f 401, f 402, f 403, f 404, f 405, f 406, f 407, f 408, f 409, f 410, f 411, f 412, f 413, f 414, f 415, f 416, f 417, f 418, f 419, f 420, f 421, f 422, f 423, f 424, f 425, f 426, f 427, f 428, f 429, f 430, f 431, f 432, f 433, f 434, f 435, f 436, f 437, f 438, f 439, f 440, f 441, f 442, f 443, f 444, f 445, f 446, f 447, f 448, f 449, f 450, f 451, f 452], []⟩ : Act)) → CI bl cur2 (j + 1) (q + 1) → PAt X pp B w' qE r4 cur2 fns → Adv B w w' → Q .normal a' w') :
    (codeAt Tryz.f55 (isCond 274)).wp Tryz.prog Q a w := by
  obtain ⟨f, rfl⟩ := ha
  have HCI := Lib.hid hci
  have HQ := Lib.hid hQ
  obtain ⟨hc1, hc2, hc3⟩ := hci.len
  clear hci hQ
  conv => arg 2; whnf
  cases b with
  | false =>
    go_wp2
    refine HQ.out _ _ cur (frm_is (by kernel_rfl)) ?_ h (Adv.refl B w)
    have e : j = q := by have := of_decide_eq_false hb; omega
    subst e
    exact HCI.out.copy_same hql
  | true =>
    have hjq : j < q := by have := of_decide_eq_true hb; omega
    have hqc : q < cur.length := by omega
    have hok := h.buf.2 cur[q] (List.getElem_mem _)
    have hcb := (hrb ▸ h.buf : Buf w B (.slice (some ⟨bg, off, none⟩) n cap) cur)
    have hn : n = cur.length := hcb.len
    obtain ⟨ca, cb⟩ := hcb.cell q hqc
    obtain ⟨ca2, cb2⟩ := hcb.cell j (by omega)
    have hcq : cur[q] = bl[q] := by
      have := HCI.out.get q (Nat.le_refl _)
      rw [List.getElem?_eq_getElem hqc, List.getElem?_eq_getElem hql] at this
      exact Option.some.inj this
    have kff : ∀ i, w.frozen? ⟨bg, i, none⟩ = false := by
      intro i
      obtain ⟨_, _, _, hx⟩ := hcb.1.lt bg rfl
      exact frozen_at hx i
    have k4 := h.f4
    rw [hrb] at k4
    obtain ⟨hW, hAW⟩ := h.put hrb j (by omega) cur[q] hok
    rw [hcq] at ca cb hW hAW
    obtain ⟨tk, htk⟩ : ∃ tk, tk = bl[q] := ⟨_, rfl⟩
    rw [← htk] at ca cb hW hAW
    obtain ⟨tj, htj⟩ : ∃ tj, tj = cur[j].tt := ⟨_, rfl⟩
    obtain ⟨vj, hvj⟩ : ∃ vj, vj = cur[j].val := ⟨_, rfl⟩
    rw [← htj] at ca2
    rw [← hvj] at cb2
    have HW := Lib.hid hW
    have HAW := Lib.hid hAW
    have HTK := Lib.hid htk
    have hjn : j < n := by omega
    have hqn : q < n := by omega
    clear hW hAW htk htj hvj hcq hb
    simp only [Tok.val] at cb
    have k4d : w.drew.cell? ⟨pp, 4, none⟩ = _ := k4
    have cad : w.drew.cell? ⟨bg, off + q * 2, none⟩ = _ := ca
    have cbd : w.drew.cell? ⟨bg, off + q * 2 + 1, none⟩ = _ := cb
    have cad2 : w.drew.cell? ⟨bg, off + j * 2, none⟩ = _ := ca2
    have cbd2 : w.drew.cell? ⟨bg, off + j * 2 + 1, none⟩ = _ := cb2
    have kffd : ∀ i, w.drew.frozen? ⟨bg, i, none⟩ = false := kff
    go_wp2_with fail
    go_region
    exact HQ.out _ _ _ (frm_is (by kernel_rfl)) (HTK.out ▸ HCI.out.copy hql) HW.out.drew HAW.out.drew

end
end Go.Proofs.YtlglijnaeaonpaaGreatDoor.Css
