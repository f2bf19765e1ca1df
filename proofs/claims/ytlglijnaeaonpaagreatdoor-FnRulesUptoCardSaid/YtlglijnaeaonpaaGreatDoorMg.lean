/- A declaration's blanks are taken out: the loop. -/
import Derived.Test.YtlglijnaeaonpaaGreatDoorMf
import Derived.Test.YtlglijnaeaonpaaGreatDoorMe
set_option linter.all false
/- A declaration's blanks are taken out: the loop. -/
namespace Go.Proofs.YtlglijnaeaonpaaGreatDoor.Css
open Go.RowKit

set_option maxRecDepth 100000 in
set_option maxHeartbeats 8000000 in
theorem loop4 (X : Lx) (pp B : Nat) (w : World) (qE : Nat) (r4 : PR) (bl : List Tok) (fns : List Nat) (h : PAt X pp B w qE r4 bl fns) (bg off cap : Nat) (hrb : r4.buf = .slice (some ⟨bg, off, none⟩) bl.length cap) (hbig : bl.length ≤ 1000000)
    (Q : Exit → Act → World → Prop) (a : Act) (tE : Int) (ha : ∃ f : Nat → Value, a = (⟨#[.pointer (some ⟨pp, 0, none⟩), f 1, .int .u32 0, f 3, .int .u32 tE, f 5, f 6, .int .i64 0, .int .i64 0, f 9, f 10, f 11, f 12, f 13, f 14, f 15, f 16, f 17, f 18, f 19, f 20, f 21, f 22, f 23, f 24, f 25, f 26, f 27, f 28, f 29, f 30, f 31, f 32, f 33, f 34, f 35, f 36, f 37, f 38, f 39, f 40, f 41, f 42, f 43, f 44, f 45, f 46, f 47, f 48, f 49, f 50, f 51, f 52, f 53, f 54, f 55, f 56, f 57, f 58, f 59, f 60, f 61, f 62, f 63, f 64, f 65, f 66, f 67, f 68, f 69, f 70, f 71, f 72, f 73, f 74, f 75, f 76, f 77, f 78, f 79, f 80, f 81, f 82, f 83, f 84, f 85, f 86, f 87, f 88, f 89, f 90, f 91, f 92, f 93, f 94, f 95, f 96, f 97, f 98, f 99, f 100, f 101, f 102, f 103, f 104, f 105, f 106, f 107, f 108, f 109, f 110, f 111, f 112, f 113, f 114, f 115, f 116, f 117, f 118, f 119, f 120, f 121, f 122, f 123, f 124, f 125, f 126, f 127, f 128, f 129, f 130, f 131, f 132, f 133, f 134, f 135, f 136, f 137, f 138, f 139, f 140, f 141, f 142, f 143, f 144, f 145, f 146, f 147, f 148, f 149, f 150, f 151, f 152, f 153, f 154, f 155, f 156, f 157, f 158, f 159, f 160, f 161, f 162, f 163, f 164, f 165, f 166, f 167, f 168, f 169, f 170, f 171, f 172, f 173, f 174, f 175, f 176, f 177, f 178, f 179, f 180, f 181, f 182, f 183, f 184, f 185, f 186, f 187, f 188, f 189, f 190, f 191, f 192, f 193, f 194, f 195, f 196, f 197, f 198, f 199, f 200, f 201, f 202, f 203, f 204, f 205, f 206, f 207, f 208, f 209, f 210, f 211, f 212, f 213, f 214, f 215, f 216, f 217, f 218, f 219, f 220, f 221, f 222, f 223, f 224, f 225, f 226, f 227, f 228, f 229, f 230, f 231, f 232, f 233, f 234, f 235, f 236, f 237, f 238, f 239, f 240, f 241, f 242, f 243, f 244, f 245, f 246, f 247, f 248, f 249, f 250, f 251, f 252, f 253, f 254, f 255, f 256, f 257, f 258, f 259, f 260, f 261, f 262, f 263, f 264, f 265, f 266, f 267, f 268, f 269, f 270, f 271, f 272, f 273, f 274, f 275, f 276, f 277, f 278, f 279, f 280, f 281, f 282, f 283, f 284, f 285, f 286, f 287, f 288, f 289, f 290, f 291, f 292, f 293, f 294, f 295, f 296, f 297, f 298, f 299, f 300, f 301, f 302, f 303, f 304, f 305, f 306, f 307, f 308, f 309, f 310, f 311, f 312, f 313, f 314, f 315, f 316, f 317, f 318, f 319, f 320, f 321, f 322, f 323, f 324, f 325, f 326, f 327, f 328, f 329, f 330, f 331, f 332, f 333, f 334, f 335, f 336, f 337, f 338, f 339, f 340, f 341, f 342, f 343, f 344, f 345, f 346, f 347, f 348, f 349, f 350, f 351, f 352, f 353, f 354, f 355, f 356, f 357, f 358, f 359, f 360, f 361, f 362, f 363, f 364, f 365, f 366, f 367, f 368, f 369, f 370, f 371, f 372, f 373, f 374, f 375, f 376, f 377, f 378, f 379, f 380, f 381, f 382, f 383, f 384, f 385, f 386, f 387, f 388, f 389, f 390, f 391, f 392, f 393, f 394, f 395, f 396, f 397, f 398, f 399, f 400, f 401, f 402, f 403, f 404, f 405, f 406, f 407, f 408, f 409, f 410, f 411, f 412, f 413, f 414, f 415, f 416, f 417, f 418, f 419, f 420, f 421, f 422, f 423, f 424, f 425, f 426, f 427, f 428, f 429, f 430, f 431, f 432, f 433, f 434, f 435, f 436, f 437, f 438, f 439, f 440, f 441, f 442, f 443, f 444, f 445, f 446, f 447, f 448, f 449, f 450, f 451, f 452], []⟩ : Act))
    (hQ : ∀ (a' : Act) (w' : World) (j : Nat) (cur : List Tok), (∃ f : Nat → Value, a' = (⟨#[.pointer (some ⟨pp, 0, none⟩), f 1, .int .u32 0, f 3, .int .u32 tE, f 5, f 6, .int .i64 (j : Nat), .int .i64 (bl.length : Nat), f 9, f 10, f 11, f 12, f 13, f 14, f 15, f 16, f 17, f 18, f 19, f 20, f 21, f 22, f 23, f 24, f 25, f 26, f 27, f 28, f 29, f 30, f 31, f 32, f 33, f 34, f 35, f 36, f 37, f 38, f 39, f 40, f 41, f 42, f 43, f 44, f 45, f 46, f 47, f 48, f 49, f 50, f 51, f 52, f 53, f 54, f 55, f 56, f 57, f 58, f 59, f 60, f 61, f 62, f 63, f 64, f 65, f 66, f 67, f 68, f 69, f 70, f 71, f 72, f 73, f 74, f 75, f 76, f 77, f 78, f 79, f 80, f 81, f 82, f 83, f 84, f 85, f 86, f 87, f 88, f 89, f 90, f 91, f 92, f 93, f 94, f 95, f 96, f 97, f 98, f 99, f 100, f 101, f 102, f 103, f 104, f 105, f 106, f 107, f 108, f 109, f 110, f 111, f 112, f 113, f 114, f 115, f 116, f 117, f 118, f 119, f 120, f 121, f 122, f 123, f 124, f 125, f 126, f 127, f 128, f 129, f 130, f 131, f 132, f 133, f 134, f 135, f 136, f 137, f 138, f 139, f 140, f 141, f 142, f 143, f 144, f 145, f 146, f 147, f 148, f 149, f 150, f 151, f 152, f 153, f 154, f 155, f 156, f 157, f 158, f 159, f 160, f 161, f 162, f 163, f 164, f 165, f 166, f 167, f 168, f 169, f 170, f 171, f 172, f 173, f 174, f 175, f 176, f 177, f 178, f 179, f 180, f 181, f 182, f 183, f 184, f 185, f 186, f 187, f 188, f 189, f 190, f 191, f 192, f 193, f 194, f 195, f 196, f 197, f 198, f 199, f 200, f 201, f 202, f 203, f 204, f 205, f 206, f 207, f 208, f 209, f 210, f 211, f 212, f 213, f 214, f 215, f 216, f 217, f 218, f 219, f 220, f 221, f 222, f 223, f 224, f 225, f 226, f 227, f 228, f 229, f 230, f 231, f 232, f 233, f 234, f 235, f 236, f 237, f 238, f 239, f 240, f 241, f 242, f 243, f 244, f 245, f 246, f 247, f 248, f 249, f 250, f 251, f 252, f 253, f 254, f 255, f 256, f 257, f 258, f 259, f 260, f 261, f 262, f 263, f 264, f 265, f 266, f 267, f 268, f 269, f 270, f 271, f 272, f 273, f 274, f 275, f 276, f 277, f 278, f 279, f 280, f 281, f 282, f 283, f 284, f 285, f 286, f 287, f 288, f 289, f 290, f 291, f 292, f 293, f 294, f 295, f 296, f 297, f 298, f 299, f 300, f 301, f 302, f 303, f 304, f 305, f 306, f 307, f 308, f 309, f 310, f 311, f 312, f 313, f 314, f 315, f 316, f 317, f 318, f 319, f 320, f 321, f 322, f 323, f 324, f 325, f 326, f 327, f 328, f 329, f 330, f 331, f 332, f 333, f 334, f 335, f 336, f 337, f 338, f 339, f 340, f 341, f 342, f 343, f 344, f 345, f 346, f 347, f 348, f 349, f 350, f 351, f 352, f 353, f 354, f 355, f 356, f 357, f 358, f 359, f 360, f 361, f 362, f 363, f 364, f 365, f 366, f 367, f 368, f 369, f 370, f 371, f 372, f 373, f 374, f 375, f 376, f 377, f 378, f 379, f 380, f 381, f 382, f 383, f 384, f 385, f 386, f 387, f 388, f 389, f 390, f 391, f 392, f 393, f 394, f 395, f 396, f 397, f 398, f 399, f 400, f 401, f 402, f 403, f 404, f 405, f 406, f 407, f 408, f 409, f 410, f 411, f 412, f 413, f 414, f 415, f 416, f 417, f 418, f 419, f 420, f 421, f 422, f 423, f 424, f 425, f 426, f 427, f 428, f 429, f 430, f 431, f 432, f 433, f 434, f 435, f 436, f 437, f 438, f 439, f 440, f 441, f 442, f 443, f 444, f 445, f 446, f 447, f 448, f 449, f 450, f 451, f 452], []⟩ : Act)) → CI bl cur j bl.length → PAt X pp B w' qE r4 cur fns → Adv B w w' → Q (.exit 6) a' w') :
    (codeAt Tryz.f55 (isLoop 19)).wp Tryz.prog Q a w := by
  obtain ⟨f, rfl⟩ := ha
  have HQ := Lib.hid hQ
  clear hQ
  conv => arg 2; whnf
  refine wp_loop_ghost_k (fun k a wr => ∃ (j q : Nat) (f : Nat → Value), (∃ cur, k = bl.length - q ∧ CI bl cur j q ∧ PAt X pp B wr qE r4 cur fns ∧ Adv B w wr) ∧ a = (⟨#[.pointer (some ⟨pp, 0, none⟩), f 1, .int .u32 0, f 3, .int .u32 tE, f 5, f 6, .int .i64 j, .int .i64 q, f 9, f 10, f 11, f 12, f 13, f 14, f 15, f 16, f 17, f 18, f 19, f 20, f 21, f 22, f 23, f 24, f 25, f 26, f 27, f 28, f 29, f 30, f 31, f 32, f 33, f 34, f 35, f 36, f 37, f 38, f 39, f 40, f 41, f 42, f 43, f 44, f 45, f 46, f 47, f 48, f 49, f 50, f 51, f 52, f 53, f 54, f 55, f 56, f 57, f 58, f 59, f 60, f 61, f 62, f 63, f 64, f 65, f 66, f 67, f 68, f 69, f 70, f 71, f 72, f 73, f 74, f 75, f 76, f 77, f 78, f 79, f 80, f 81, f 82, f 83, f 84, f 85, f 86, f 87, f 88, f 89, f 90, f 91, f 92, f 93, f 94, f 95, f 96, f 97, f 98, f 99, f 100, f 101, f 102, f 103, f 104, f 105, f 106, f 107, f 108, f 109, f 110, f 111, f 112, f 113, f 114, f 115, f 116, f 117, f 118, f 119, f 120, f 121, f 122, f 123, f 124, f 125, f 126, f 127, f 128, f 129, f 130, f 131, f 132, f 133, f 134, f 135, f 136, f 137, f 138, f 139, f 140, f 141, f 142, f 143, f 144, f 145, f 146, f 147, f 148, f 149, f 150, f 151, f 152, f 153, f 154, f 155, f 156, f 157, f 158, f 159, f 160, f 161, f 162, f 163, f 164, f 165, f 166, f 167, f 168, f 169, f 170, f 171, f 172, f 173, f 174, f 175, f 176, f 177, f 178, f 179, f 180, f 181, f 182, f 183, f 184, f 185, f 186, f 187, f 188, f 189, f 190, f 191, f 192, f 193, f 194, f 195, f 196, f 197, f 198, f 199, f 200, f 201, f 202, f 203, f 204, f 205, f 206, f 207, f 208, f 209, f 210, f 211, f 212, f 213, f 214, f 215, f 216, f 217, f 218, f 219, f 220, f 221, f 222, f 223, f 224, f 225, f 226, f 227, f 228, f 229, f 230, f 231, f 232, f 233, f 234, f 235, f 236, f 237, f 238, f 239, f 240, f 241, f 242, f 243, f 244, f 245, f 246, f 247, f 248, f 249, f 250, f 251, f 252, f 253, f 254, f 255, f 256, f 257, f 258, f 259, f 260, f 261, f 262, f 263, f 264, f 265, f 266, f 267, f 268, f 269, f 270, f 271, f 272, f 273, f 274, f 275, f 276, f 277, f 278, f 279, f 280, f 281, f 282, f 283, f 284, f 285, f 286, f 287, f 288, f 289, f 290, f 291, f 292, f 293, f 294, f 295, f 296, f 297, f 298, f 299, f 300, f 301, f 302, f 303, f 304, f 305, f 306, f 307, f 308, f 309, f 310, f 311, f 312, f 313, f 314, f 315, f 316, f 317, f 318, f 319, f 320, f 321, f 322, f 323, f 324, f 325, f 326, f 327, f 328, f 329, f 330, f 331, f 332, f 333, f 334, f 335, f 336, f 337, f 338, f 339, f 340, f 341, f 342, f 343, f 344, f 345, f 346, f 347, f 348, f 349, f 350, f 351, f 352, f 353, f 354, f 355, f 356, f 357, f 358, f 359, f 360, f 361, f 362, f 363, f 364, f 365, f 366, f 367, f 368, f 369, f 370, f 371, f 372, f 373, f 374, f 375, f 376, f 377, f 378, f 379, f 380, f 381, f 382, f 383, f 384, f 385, f 386, f 387, f 388, f 389, f 390, f 391, f 392, f 393, f 394, f 395, f 396, f 397, f 398, f 399, f 400, f 401, f 402, f 403, f 404, f 405, f 406, f 407, f 408, f 409, f 410, f 411, f 412, f 413, f 414, f 415, f 416, f 417, f 418, f 419, f 420, f 421, f 422, f 423, f 424, f 425, f 426, f 427, f 428, f 429, f 430, f 431, f 432, f 433, f 434, f 435, f 436, f 437, f 438, f 439, f 440, f 441, f 442, f 443, f 444, f 445, f 446, f 447, f 448, f 449, f 450, f 451, f 452], []⟩ : Act)) bl.length ?_ ?_
  · refine ⟨0, 0, frm_exists ?_ (by kernel_rfl)⟩
    exact ⟨bl, rfl, CI.start bl, h, Adv.refl B w⟩
  intro gk _ wr hinv
  obtain ⟨j, q, f4, ⟨cur, hk4, hci, hP, hA⟩, ha⟩ := hinv
  subst ha
  dsimp only
  intro _ _ _ _
  have k4 := hP.f4
  rw [hrb] at k4
  obtain ⟨hc1, hc2, hc3⟩ := hci.len
  have HCI := Lib.hid hci
  have HGK := Lib.hid hk4
  clear hci hk4
  by_cases hlt : q < bl.length
  · have d0 : decide ((q : Int) < (bl.length : Int)) = true := decide_eq_true (by omega)
    have hcb := (hrb ▸ hP.buf : Buf wr B (.slice (some ⟨bg, off, none⟩) bl.length cap) cur)
    have cq := (hcb.cell q (by omega)).1
    have hcq : cur[q] = bl[q] := by
      have := HCI.out.get q (Nat.le_refl _)
      rw [List.getElem?_eq_getElem (by omega), List.getElem?_eq_getElem hlt] at this
      exact Option.some.inj this
    rw [hcq] at cq
    obtain ⟨lt4, hlt4⟩ : ∃ lt, lt = bl[q].tt := ⟨_, rfl⟩
    rw [← hlt4] at cq
    have HLT4 := Lib.hid hlt4
    clear hcq hcb hlt4
    go_upto_if 153 with fail
    refine wp_cut (fun a' we => ∃ (j' q' : Nat) (f : Nat → Value), (∃ cur', CI bl cur' j' q' ∧ q ≤ q' ∧ q' < bl.length ∧ PAt X pp B we qE r4 cur' fns ∧ Adv B wr we) ∧ a' = (⟨#[.pointer (some ⟨pp, 0, none⟩), f 1, .int .u32 0, f 3, .int .u32 tE, f 5, f 6, .int .i64 j', .int .i64 q', f 9, f 10, f 11, f 12, f 13, f 14, f 15, f 16, f 17, f 18, f 19, f 20, f 21, f 22, f 23, f 24, f 25, f 26, f 27, f 28, f 29, f 30, f 31, f 32, f 33, f 34, f 35, f 36, f 37, f 38, f 39, f 40, f 41, f 42, f 43, f 44, f 45, f 46, f 47, f 48, f 49, f 50, f 51, f 52, f 53, f 54, f 55, f 56, f 57, f 58, f 59, f 60, f 61, f 62, f 63, f 64, f 65, f 66, f 67, f 68, f 69, f 70, f 71, f 72, f 73, f 74, f 75, f 76, f 77, f 78, f 79, f 80, f 81, f 82, f 83, f 84, f 85, f 86, f 87, f 88, f 89, f 90, f 91, f 92, f 93, f 94, f 95, f 96, f 97, f 98, f 99, f 100, f 101, f 102, f 103, f 104, f 105, f 106, f 107, f 108, f 109, f 110, f 111, f 112, f 113, f 114, f 115, f 116, f 117, f 118, f 119, f 120, f 121, f 122, f 123, f 124, f 125, f 126, f 127, f 128, f 129, f 130, f 131, f 132, f 133, f 134, f 135, f 136, f 137, f 138, f 139, f 140, f 141, f 142, f 143, f 144, f 145, f 146, f 147, f 148, f 149, f 150, f 151, f 152, f 153, f 154, f 155, f 156, f 157, f 158, f 159, f 160, f 161, f 162, f 163, f 164, f 165, f 166, f 167, f 168, f 169, f 170, f 171, f 172, f 173, f 174, f 175, f 176, f 177, f 178, f 179, f 180, f 181, f 182, f 183, f 184, f 185, f 186, f 187, f 188, f 189, f 190, f 191, f 192, f 193, f 194, f 195, f 196, f 197, f 198, f 199, f 200, f 201, f 202, f 203, f 204, f 205, f 206, f 207, f 208, f 209, f 210, f 211, f 212, f 213, f 214, f 215, f 216, f 217, f 218, f 219, f 220, f 221, f 222, f 223, f 224, f 225, f 226, f 227, f 228, f 229, f 230, f 231, f 232, f 233, f 234, f 235, f 236, f 237, f 238, f 239, f 240, f 241, f 242, f 243, f 244, f 245, f 246, f 247, f 248, f 249, f 250, f 251, f 252, f 253, f 254, f 255, f 256, f 257, f 258, f 259, f 260, f 261, f 262, f 263, f 264, f 265, f 266, f 267, f 268, f 269, f 270, f 271, f 272, f 273, f 274, f 275, f 276, f 277, f 278, f 279, f 280, f 281, f 282, f 283, f 284, f 285, f 286, f 287, f 288, f 289, f 290, f 291, f 292, f 293, f 294, f 295, f 296, f 297, f 298, f 299, f 300, f 301, f 302, f 303, f 304, f 305, f 306, f 307, f 308, f 309, f 310, f 311, f 312, f 313, f 314, f 315, f 316, f 317, f 318, f 319, f 320, f 321, f 322, f 323, f 324, f 325, f 326, f 327, f 328, f 329, f 330, f 331, f 332, f 333, f 334, f 335, f 336, f 337, f 338, f 339, f 340, f 341, f 342, f 343, f 344, f 345, f 346, f 347, f 348, f 349, f 350, f 351, f 352, f 353, f 354, f 355, f 356, f 357, f 358, f 359, f 360, f 361, f 362, f 363, f 364, f 365, f 366, f 367, f 368, f 369, f 370, f 371, f 372, f 373, f 374, f 375, f 376, f 377, f 378, f 379, f 380, f 381, f 382, f 383, f 384, f 385, f 386, f 387, f 388, f 389, f 390, f 391, f 392, f 393, f 394, f 395, f 396, f 397, f 398, f 399, f 400, f 401, f 402, f 403, f 404, f 405, f 406, f 407, f 408, f 409, f 410, f 411, f 412, f 413, f 414, f 415, f 416, f 417, f 418, f 419, f 420, f 421, f 422, f 423, f 424, f 425, f 426, f 427, f 428, f 429, f 430, f 431, f 432, f 433, f 434, f 435, f 436, f 437, f 438, f 439, f 440, f 441, f 442, f 443, f 444, f 445, f 446, f 447, f 448, f 449, f 450, f 451, f 452], []⟩ : Act)) ?_ ?_
    rotate_left
    · intro _ _ _ _
      cases hw : (lt4 == 20) with
      | false =>
        go_wp2
        refine Met.intro ?_
        go_step
        exact ⟨j, q, frm_exists ⟨cur, HCI.out, Nat.le_refl _, hlt, hP, Adv.refl B wr⟩ (by kernel_rfl)⟩
      | true =>
        have HNB := Lib.hid (show nb bl[q] = false from by rw [nb, ← HLT4.out, bne, hw]; rfl)
        obtain ⟨bb, hbb⟩ : ∃ bb, decide ((0 : Int) < (j : Int)) = bb := ⟨_, rfl⟩
        have hbb' : decide (0 < j) = bb := by rw [← hbb]; exact decide_eq_decide.2 (by omega)
        go_upto_if 155 with fail
        have HBB := Lib.hid hbb
        clear hbb hbb'
        refine sep155 X pp B wr qE r4 bl cur fns hP bg off cap hrb hbig _ _ tE j q bb HBB.out (frm_is (by kernel_rfl)) HCI.out hlt ?n155 ?e155
        case e155 =>
          rintro _ ⟨f5, rfl⟩
          go_wp2
          refine Handed.intro (bl.length - (q + 1)) ?measure ?_
          rotate_left
          go_step
          refine ⟨j, q + 1, frm_exists ?_ (by kernel_rfl)⟩
          exact ⟨cur, rfl, HCI.out.skip hlt HNB.out, hP, hA⟩
          case measure => have := HGK.out; omega
        case n155 =>
          rintro _ ⟨f5, rfl⟩
          have s0 : IntKind.i64.wrap ((q : Int) + 1) = ((q + 1 : Nat) : Int) := by rw [IntWalk.i64_in _ (by omega)]; omega
          obtain ⟨i9, hi9⟩ : ∃ i9, i9 = q + 1 := ⟨_, rfl⟩
          rw [← hi9] at s0
          obtain ⟨b2, hb2⟩ : ∃ b2, decide ((i9 : Int) < (bl.length : Int)) = b2 := ⟨_, rfl⟩
          have hb2' : decide (i9 < bl.length) = b2 := by rw [← hb2]; exact decide_eq_decide.2 (by omega)
          have HI9 := Lib.hid hi9
          clear hi9
          go_upto_if 207 with fail
          have HB2 := Lib.hid hb2
          clear hb2 hb2'
          refine sep207 X pp B wr qE r4 bl cur fns hP bg off cap hrb hbig _ _ tE j q b2 (by rw [← HI9.out]; exact HB2.out) (frm_is (by kernel_rfl)) HCI.out hlt ?n207 ?e207
          case e207 =>
            rintro _ ⟨f6, rfl⟩
            go_wp2
            refine Handed.intro (bl.length - (q + 1)) ?measure ?_
            rotate_left
            go_step
            refine ⟨j, q + 1, frm_exists ?_ (by kernel_rfl)⟩
            exact ⟨cur, rfl, HCI.out.skip hlt HNB.out, hP, hA⟩
            case measure => have := HGK.out; omega
          case n207 =>
            rintro _ w6 j6 q6 cur6 ⟨f6, rfl⟩ hci6 hq6 hl6 hP6 hA6
            have HCI6 := Lib.hid hci6
            clear hci6
            go_wp2
            refine Met.intro ?_
            go_step
            exact ⟨j6, q6, frm_exists ⟨cur6, HCI6.out, hq6, hl6, hP6, hA6⟩ (by kernel_rfl)⟩
    rintro _ w5 ⟨j5, q5, f5, ⟨cur5, hci5, hqq, hql, hP5, hA5⟩, rfl⟩
    dsimp only
    have HCI5 := Lib.hid hci5
    obtain ⟨hd1, hd2, hd3⟩ := hci5.len
    clear hci5
    obtain ⟨bb, hbb⟩ : ∃ bb, decide ((j5 : Int) < (q5 : Int)) = bb := ⟨_, rfl⟩
    have hbb' : decide (j5 < q5) = bb := by rw [← hbb]; exact decide_eq_decide.2 (by omega)
    go_upto_if 274 with fail
    have HBB := Lib.hid hbb
    clear hbb hbb'
    refine copy274 X pp B w5 qE r4 bl cur5 fns hP5 bg off _ cap hrb _ _ tE j5 q5 bb HBB.out (frm_is (by kernel_rfl)) HCI5.out hql ?_
    rintro _ w6 cur6 ⟨f6, rfl⟩ hci6 hP6 hA6
    have HCI6 := Lib.hid hci6
    clear hci6
    have s1 : IntKind.i64.wrap ((q5 : Int) + 1) = ((q5 + 1 : Nat) : Int) := by rw [IntWalk.i64_in _ (by omega)]; omega
    have s2 : IntKind.i64.wrap ((j5 : Int) + 1) = ((j5 + 1 : Nat) : Int) := by rw [IntWalk.i64_in _ (by omega)]; omega
    go_wp2
    refine Handed.intro (bl.length - (q5 + 1)) ?measure ?_
    rotate_left
    go_step
    refine ⟨j5 + 1, q5 + 1, frm_exists ?_ (by kernel_rfl)⟩
    exact ⟨cur6, rfl, HCI6.out, hP6, (hA.trans hA5).trans hA6⟩
    case measure => have := HGK.out; omega
  · have d0 : decide ((q : Int) < (bl.length : Int)) = false := decide_eq_false (by omega)
    have e : q = bl.length := by omega
    subst e
    go_wp2
    exact HQ.out _ _ j cur (frm_is (by kernel_rfl)) HCI.out hP hA
end Go.Proofs.YtlglijnaeaonpaaGreatDoor.Css
