/- The switch of a ClientHello's unmarshal: flags, and vectors of bytes. No statement of the seat is proved here. -/
import Derived.Test.YtopcljikkdlffaaGreatX09
namespace Go.Proofs.YtopcljikkdlffaaGreat
open Go.RowKit

set_option maxRecDepth 100000 in
set_option maxHeartbeats 8000000 in
theorem ch_sw_23 {w0 w : World} {C : Array Value} {g m eB tB dB mb : Nat} {seen : List Nat} {ex : List UInt8} {f : CH} {d : List UInt8} (z : Nat → Value) 
    (hB : Bn w0 C g m (chBs C g m eB tB ex 23 f ++ [(dB, [.vw d])]) (some (mb, seen)) w) :
    Code.wp Tryz.prog chSwitch (ChSw w0 C g m eB dB mb seen (chBs C g m eB tB ex 23) f 23 d ex) ⟨#[.pointer (some ⟨m, 0, none⟩), z 1, z 2, z 3, z 4, z 5, z 6, z 7, .pointer (some ⟨eB, 0, none⟩), .map (some mb), z 10, .pointer (some ⟨dB, 0, none⟩), z 12, z 13, z 14, z 15, z 16, z 17, z 18, z 19, z 20, z 21, z 22, z 23, z 24, z 25, z 26, z 27, z 28, z 29, z 30, z 31, z 32, z 33, z 34, z 35, z 36, z 37, z 38, z 39, z 40, z 41, z 42, z 43, z 44, z 45, z 46, z 47, z 48, z 49, z 50, z 51, z 52, z 53, z 54, z 55, z 56, z 57, z 58, z 59, z 60, z 61, z 62, z 63, z 64, z 65, z 66, z 67, z 68, z 69, z 70, z 71, z 72, z 73, z 74, z 75, z 76, z 77, z 78, z 79, z 80, z 81, z 82, z 83, z 84, z 85, z 86, z 87, z 88, z 89, z 90, z 91, z 92, z 93, z 94, z 95, z 96, z 97, z 98, z 99, z 100, z 101, z 102, z 103, z 104, z 105, z 106, z 107, z 108, z 109, z 110, z 111, z 112, z 113, z 114, z 115, z 116, z 117, z 118, z 119, z 120, z 121, z 122, z 123, z 124, z 125, z 126, z 127, z 128, .int .u16 23, z 130, z 131, z 132, z 133, z 134, z 135, z 136, z 137, z 138, z 139, z 140, z 141, z 142, z 143, z 144, z 145, z 146, z 147, z 148, z 149, z 150, z 151, z 152, z 153, z 154, z 155, z 156, z 157, z 158, z 159, z 160, z 161, z 162, z 163, z 164, z 165, z 166, z 167, z 168, z 169, z 170, z 171, z 172, z 173, z 174, z 175, z 176, z 177, z 178, z 179, z 180, z 181, z 182, z 183, z 184, z 185, z 186, z 187, z 188, z 189, z 190, z 191, z 192, z 193, z 194, z 195, z 196, z 197, z 198, z 199, z 200, z 201, z 202, z 203, z 204, z 205, z 206, z 207, z 208, z 209, z 210, z 211, z 212, z 213, z 214, z 215, z 216, z 217, z 218, z 219, z 220, z 221, z 222, z 223, z 224, z 225, z 226, z 227, z 228, z 229, z 230, z 231, z 232, z 233, z 234, z 235, z 236, z 237, z 238, z 239, z 240, z 241, z 242, z 243, z 244, z 245, z 246, z 247, z 248, z 249, z 250, z 251, z 252, z 253, z 254, z 255, z 256, z 257, z 258, z 259, z 260, z 261, z 262, z 263, z 264, z 265, z 266, z 267, z 268, z 269, z 270, z 271, z 272, z 273, z 274, z 275, z 276, z 277, z 278, z 279, z 280, z 281, z 282, z 283, z 284, z 285, z 286, z 287, z 288, z 289, z 290, z 291, z 292, z 293, z 294, z 295, z 296, z 297, z 298, z 299, z 300, z 301, z 302, z 303, z 304, z 305, z 306, z 307, z 308, z 309, z 310, z 311, z 312, z 313, z 314, z 315, z 316, z 317, z 318, z 319, z 320, z 321, z 322, z 323, z 324, z 325, z 326, z 327, z 328, z 329, z 330, z 331, z 332, z 333, z 334, z 335, z 336, z 337, z 338, z 339, z 340, z 341, z 342, z 343, z 344, z 345, z 346, z 347, z 348, z 349, z 350, z 351, z 352, z 353, z 354, z 355, z 356, z 357, z 358, z 359, z 360, z 361, z 362, z 363, z 364, z 365, z 366, z 367, z 368, z 369, z 370, z 371, z 372, z 373, z 374, z 375, z 376, z 377, z 378, z 379, z 380, z 381, z 382, z 383, z 384, z 385, z 386, z 387, z 388, z 389, z 390, z 391, z 392, z 393, z 394, z 395, z 396, z 397, z 398, z 399, z 400, z 401, z 402, z 403, z 404, z 405, z 406, z 407, z 408, z 409, z 410, z 411, z 412, z 413, z 414, z 415, z 416, z 417, z 418, z 419, z 420, z 421, z 422, z 423, z 424, z 425, z 426, z 427, z 428, z 429, z 430, z 431, z 432, z 433, z 434, z 435, z 436, z 437, z 438, z 439, z 440, z 441, z 442, z 443, z 444, z 445, z 446, z 447, z 448, z 449, z 450, z 451, z 452, z 453, z 454, z 455, z 456, z 457, z 458, z 459, z 460, z 461, z 462, z 463, z 464, z 465, z 466, z 467, z 468, z 469, z 470, z 471, z 472, z 473, z 474, z 475, z 476, z 477, z 478, z 479, z 480, z 481, z 482, z 483, z 484, z 485, z 486, z 487, z 488, z 489, z 490, z 491, z 492, z 493, z 494, z 495, z 496, z 497, z 498, z 499], []⟩ w := by
  have HB := Lib.hid hB
  have q := hB.val (b := 0) (i := 16) rfl rfl
  have qz := hB.frozen (b := 0) rfl 16
  have HB1 := Lib.hid (hB.set (b := 0) (i := 16) rfl rfl (.val (.bool true)) _ rfl rfl)
  clear hB
  conv => arg 2; whnf
  go_wp2_with fail
  exact ⟨rfl, rfl, .inr ⟨{ f with ems := true }, d, rfl, ⟨rfl, rfl, rfl, rfl⟩, .inr ⟨rfl, rfl, HB1.out⟩⟩⟩

set_option maxRecDepth 100000 in
set_option maxHeartbeats 8000000 in
theorem ch_sw_18 {w0 w : World} {C : Array Value} {g m eB tB dB mb : Nat} {seen : List Nat} {ex : List UInt8} {f : CH} {d : List UInt8} (z : Nat → Value) 
    (hB : Bn w0 C g m (chBs C g m eB tB ex 18 f ++ [(dB, [.vw d])]) (some (mb, seen)) w) :
    Code.wp Tryz.prog chSwitch (ChSw w0 C g m eB dB mb seen (chBs C g m eB tB ex 18) f 18 d ex) ⟨#[.pointer (some ⟨m, 0, none⟩), z 1, z 2, z 3, z 4, z 5, z 6, z 7, .pointer (some ⟨eB, 0, none⟩), .map (some mb), z 10, .pointer (some ⟨dB, 0, none⟩), z 12, z 13, z 14, z 15, z 16, z 17, z 18, z 19, z 20, z 21, z 22, z 23, z 24, z 25, z 26, z 27, z 28, z 29, z 30, z 31, z 32, z 33, z 34, z 35, z 36, z 37, z 38, z 39, z 40, z 41, z 42, z 43, z 44, z 45, z 46, z 47, z 48, z 49, z 50, z 51, z 52, z 53, z 54, z 55, z 56, z 57, z 58, z 59, z 60, z 61, z 62, z 63, z 64, z 65, z 66, z 67, z 68, z 69, z 70, z 71, z 72, z 73, z 74, z 75, z 76, z 77, z 78, z 79, z 80, z 81, z 82, z 83, z 84, z 85, z 86, z 87, z 88, z 89, z 90, z 91, z 92, z 93, z 94, z 95, z 96, z 97, z 98, z 99, z 100, z 101, z 102, z 103, z 104, z 105, z 106, z 107, z 108, z 109, z 110, z 111, z 112, z 113, z 114, z 115, z 116, z 117, z 118, z 119, z 120, z 121, z 122, z 123, z 124, z 125, z 126, z 127, z 128, .int .u16 18, z 130, z 131, z 132, z 133, z 134, z 135, z 136, z 137, z 138, z 139, z 140, z 141, z 142, z 143, z 144, z 145, z 146, z 147, z 148, z 149, z 150, z 151, z 152, z 153, z 154, z 155, z 156, z 157, z 158, z 159, z 160, z 161, z 162, z 163, z 164, z 165, z 166, z 167, z 168, z 169, z 170, z 171, z 172, z 173, z 174, z 175, z 176, z 177, z 178, z 179, z 180, z 181, z 182, z 183, z 184, z 185, z 186, z 187, z 188, z 189, z 190, z 191, z 192, z 193, z 194, z 195, z 196, z 197, z 198, z 199, z 200, z 201, z 202, z 203, z 204, z 205, z 206, z 207, z 208, z 209, z 210, z 211, z 212, z 213, z 214, z 215, z 216, z 217, z 218, z 219, z 220, z 221, z 222, z 223, z 224, z 225, z 226, z 227, z 228, z 229, z 230, z 231, z 232, z 233, z 234, z 235, z 236, z 237, z 238, z 239, z 240, z 241, z 242, z 243, z 244, z 245, z 246, z 247, z 248, z 249, z 250, z 251, z 252, z 253, z 254, z 255, z 256, z 257, z 258, z 259, z 260, z 261, z 262, z 263, z 264, z 265, z 266, z 267, z 268, z 269, z 270, z 271, z 272, z 273, z 274, z 275, z 276, z 277, z 278, z 279, z 280, z 281, z 282, z 283, z 284, z 285, z 286, z 287, z 288, z 289, z 290, z 291, z 292, z 293, z 294, z 295, z 296, z 297, z 298, z 299, z 300, z 301, z 302, z 303, z 304, z 305, z 306, z 307, z 308, z 309, z 310, z 311, z 312, z 313, z 314, z 315, z 316, z 317, z 318, z 319, z 320, z 321, z 322, z 323, z 324, z 325, z 326, z 327, z 328, z 329, z 330, z 331, z 332, z 333, z 334, z 335, z 336, z 337, z 338, z 339, z 340, z 341, z 342, z 343, z 344, z 345, z 346, z 347, z 348, z 349, z 350, z 351, z 352, z 353, z 354, z 355, z 356, z 357, z 358, z 359, z 360, z 361, z 362, z 363, z 364, z 365, z 366, z 367, z 368, z 369, z 370, z 371, z 372, z 373, z 374, z 375, z 376, z 377, z 378, z 379, z 380, z 381, z 382, z 383, z 384, z 385, z 386, z 387, z 388, z 389, z 390, z 391, z 392, z 393, z 394, z 395, z 396, z 397, z 398, z 399, z 400, z 401, z 402, z 403, z 404, z 405, z 406, z 407, z 408, z 409, z 410, z 411, z 412, z 413, z 414, z 415, z 416, z 417, z 418, z 419, z 420, z 421, z 422, z 423, z 424, z 425, z 426, z 427, z 428, z 429, z 430, z 431, z 432, z 433, z 434, z 435, z 436, z 437, z 438, z 439, z 440, z 441, z 442, z 443, z 444, z 445, z 446, z 447, z 448, z 449, z 450, z 451, z 452, z 453, z 454, z 455, z 456, z 457, z 458, z 459, z 460, z 461, z 462, z 463, z 464, z 465, z 466, z 467, z 468, z 469, z 470, z 471, z 472, z 473, z 474, z 475, z 476, z 477, z 478, z 479, z 480, z 481, z 482, z 483, z 484, z 485, z 486, z 487, z 488, z 489, z 490, z 491, z 492, z 493, z 494, z 495, z 496, z 497, z 498, z 499], []⟩ w := by
  have HB := Lib.hid hB
  have q := hB.val (b := 0) (i := 18) rfl rfl
  have qz := hB.frozen (b := 0) rfl 18
  have HB1 := Lib.hid (hB.set (b := 0) (i := 18) rfl rfl (.val (.bool true)) _ rfl rfl)
  clear hB
  conv => arg 2; whnf
  go_wp2_with fail
  exact ⟨rfl, rfl, .inr ⟨{ f with scts := true }, d, rfl, ⟨rfl, rfl, rfl, rfl⟩, .inr ⟨rfl, rfl, HB1.out⟩⟩⟩

set_option maxRecDepth 100000 in
set_option maxHeartbeats 8000000 in
theorem ch_sw_42 {w0 w : World} {C : Array Value} {g m eB tB dB mb : Nat} {seen : List Nat} {ex : List UInt8} {f : CH} {d : List UInt8} (z : Nat → Value) 
    (hB : Bn w0 C g m (chBs C g m eB tB ex 42 f ++ [(dB, [.vw d])]) (some (mb, seen)) w) :
    Code.wp Tryz.prog chSwitch (ChSw w0 C g m eB dB mb seen (chBs C g m eB tB ex 42) f 42 d ex) ⟨#[.pointer (some ⟨m, 0, none⟩), z 1, z 2, z 3, z 4, z 5, z 6, z 7, .pointer (some ⟨eB, 0, none⟩), .map (some mb), z 10, .pointer (some ⟨dB, 0, none⟩), z 12, z 13, z 14, z 15, z 16, z 17, z 18, z 19, z 20, z 21, z 22, z 23, z 24, z 25, z 26, z 27, z 28, z 29, z 30, z 31, z 32, z 33, z 34, z 35, z 36, z 37, z 38, z 39, z 40, z 41, z 42, z 43, z 44, z 45, z 46, z 47, z 48, z 49, z 50, z 51, z 52, z 53, z 54, z 55, z 56, z 57, z 58, z 59, z 60, z 61, z 62, z 63, z 64, z 65, z 66, z 67, z 68, z 69, z 70, z 71, z 72, z 73, z 74, z 75, z 76, z 77, z 78, z 79, z 80, z 81, z 82, z 83, z 84, z 85, z 86, z 87, z 88, z 89, z 90, z 91, z 92, z 93, z 94, z 95, z 96, z 97, z 98, z 99, z 100, z 101, z 102, z 103, z 104, z 105, z 106, z 107, z 108, z 109, z 110, z 111, z 112, z 113, z 114, z 115, z 116, z 117, z 118, z 119, z 120, z 121, z 122, z 123, z 124, z 125, z 126, z 127, z 128, .int .u16 42, z 130, z 131, z 132, z 133, z 134, z 135, z 136, z 137, z 138, z 139, z 140, z 141, z 142, z 143, z 144, z 145, z 146, z 147, z 148, z 149, z 150, z 151, z 152, z 153, z 154, z 155, z 156, z 157, z 158, z 159, z 160, z 161, z 162, z 163, z 164, z 165, z 166, z 167, z 168, z 169, z 170, z 171, z 172, z 173, z 174, z 175, z 176, z 177, z 178, z 179, z 180, z 181, z 182, z 183, z 184, z 185, z 186, z 187, z 188, z 189, z 190, z 191, z 192, z 193, z 194, z 195, z 196, z 197, z 198, z 199, z 200, z 201, z 202, z 203, z 204, z 205, z 206, z 207, z 208, z 209, z 210, z 211, z 212, z 213, z 214, z 215, z 216, z 217, z 218, z 219, z 220, z 221, z 222, z 223, z 224, z 225, z 226, z 227, z 228, z 229, z 230, z 231, z 232, z 233, z 234, z 235, z 236, z 237, z 238, z 239, z 240, z 241, z 242, z 243, z 244, z 245, z 246, z 247, z 248, z 249, z 250, z 251, z 252, z 253, z 254, z 255, z 256, z 257, z 258, z 259, z 260, z 261, z 262, z 263, z 264, z 265, z 266, z 267, z 268, z 269, z 270, z 271, z 272, z 273, z 274, z 275, z 276, z 277, z 278, z 279, z 280, z 281, z 282, z 283, z 284, z 285, z 286, z 287, z 288, z 289, z 290, z 291, z 292, z 293, z 294, z 295, z 296, z 297, z 298, z 299, z 300, z 301, z 302, z 303, z 304, z 305, z 306, z 307, z 308, z 309, z 310, z 311, z 312, z 313, z 314, z 315, z 316, z 317, z 318, z 319, z 320, z 321, z 322, z 323, z 324, z 325, z 326, z 327, z 328, z 329, z 330, z 331, z 332, z 333, z 334, z 335, z 336, z 337, z 338, z 339, z 340, z 341, z 342, z 343, z 344, z 345, z 346, z 347, z 348, z 349, z 350, z 351, z 352, z 353, z 354, z 355, z 356, z 357, z 358, z 359, z 360, z 361, z 362, z 363, z 364, z 365, z 366, z 367, z 368, z 369, z 370, z 371, z 372, z 373, z 374, z 375, z 376, z 377, z 378, z 379, z 380, z 381, z 382, z 383, z 384, z 385, z 386, z 387, z 388, z 389, z 390, z 391, z 392, z 393, z 394, z 395, z 396, z 397, z 398, z 399, z 400, z 401, z 402, z 403, z 404, z 405, z 406, z 407, z 408, z 409, z 410, z 411, z 412, z 413, z 414, z 415, z 416, z 417, z 418, z 419, z 420, z 421, z 422, z 423, z 424, z 425, z 426, z 427, z 428, z 429, z 430, z 431, z 432, z 433, z 434, z 435, z 436, z 437, z 438, z 439, z 440, z 441, z 442, z 443, z 444, z 445, z 446, z 447, z 448, z 449, z 450, z 451, z 452, z 453, z 454, z 455, z 456, z 457, z 458, z 459, z 460, z 461, z 462, z 463, z 464, z 465, z 466, z 467, z 468, z 469, z 470, z 471, z 472, z 473, z 474, z 475, z 476, z 477, z 478, z 479, z 480, z 481, z 482, z 483, z 484, z 485, z 486, z 487, z 488, z 489, z 490, z 491, z 492, z 493, z 494, z 495, z 496, z 497, z 498, z 499], []⟩ w := by
  have HB := Lib.hid hB
  have q := hB.val (b := 0) (i := 22) rfl rfl
  have qz := hB.frozen (b := 0) rfl 22
  have HB1 := Lib.hid (hB.set (b := 0) (i := 22) rfl rfl (.val (.bool true)) _ rfl rfl)
  clear hB
  conv => arg 2; whnf
  go_wp2_with fail
  exact ⟨rfl, rfl, .inr ⟨{ f with early := true }, d, rfl, ⟨rfl, rfl, rfl, rfl⟩, .inr ⟨rfl, rfl, HB1.out⟩⟩⟩

set_option maxRecDepth 100000 in
set_option maxHeartbeats 8000000 in
theorem ch_sw_other {w0 w : World} {C : Array Value} {g m eB tB dB mb : Nat} {seen : List Nat} {ex : List UInt8} {f : CH} {d : List UInt8} (z : Nat → Value) (ty : Nat) (hty : ty ≠ 0 ∧ ty ≠ 5 ∧ ty ≠ 10 ∧ ty ≠ 11 ∧ ty ≠ 35 ∧ ty ≠ 13 ∧ ty ≠ 50 ∧ ty ≠ 65281 ∧ ty ≠ 23 ∧ ty ≠ 16 ∧ ty ≠ 18 ∧ ty ≠ 43 ∧ ty ≠ 44 ∧ ty ≠ 51 ∧ ty ≠ 42 ∧ ty ≠ 45 ∧ ty ≠ 57 ∧ ty ≠ 41 ∧ ty ≠ 65037)
    (hB : Bn w0 C g m (chBs C g m eB tB ex ty f ++ [(dB, [.vw d])]) (some (mb, seen)) w) :
    Code.wp Tryz.prog chSwitch (ChSw w0 C g m eB dB mb seen (chBs C g m eB tB ex ty) f ty d ex) ⟨#[.pointer (some ⟨m, 0, none⟩), z 1, z 2, z 3, z 4, z 5, z 6, z 7, .pointer (some ⟨eB, 0, none⟩), .map (some mb), z 10, .pointer (some ⟨dB, 0, none⟩), z 12, z 13, z 14, z 15, z 16, z 17, z 18, z 19, z 20, z 21, z 22, z 23, z 24, z 25, z 26, z 27, z 28, z 29, z 30, z 31, z 32, z 33, z 34, z 35, z 36, z 37, z 38, z 39, z 40, z 41, z 42, z 43, z 44, z 45, z 46, z 47, z 48, z 49, z 50, z 51, z 52, z 53, z 54, z 55, z 56, z 57, z 58, z 59, z 60, z 61, z 62, z 63, z 64, z 65, z 66, z 67, z 68, z 69, z 70, z 71, z 72, z 73, z 74, z 75, z 76, z 77, z 78, z 79, z 80, z 81, z 82, z 83, z 84, z 85, z 86, z 87, z 88, z 89, z 90, z 91, z 92, z 93, z 94, z 95, z 96, z 97, z 98, z 99, z 100, z 101, z 102, z 103, z 104, z 105, z 106, z 107, z 108, z 109, z 110, z 111, z 112, z 113, z 114, z 115, z 116, z 117, z 118, z 119, z 120, z 121, z 122, z 123, z 124, z 125, z 126, z 127, z 128, .int .u16 ty, z 130, z 131, z 132, z 133, z 134, z 135, z 136, z 137, z 138, z 139, z 140, z 141, z 142, z 143, z 144, z 145, z 146, z 147, z 148, z 149, z 150, z 151, z 152, z 153, z 154, z 155, z 156, z 157, z 158, z 159, z 160, z 161, z 162, z 163, z 164, z 165, z 166, z 167, z 168, z 169, z 170, z 171, z 172, z 173, z 174, z 175, z 176, z 177, z 178, z 179, z 180, z 181, z 182, z 183, z 184, z 185, z 186, z 187, z 188, z 189, z 190, z 191, z 192, z 193, z 194, z 195, z 196, z 197, z 198, z 199, z 200, z 201, z 202, z 203, z 204, z 205, z 206, z 207, z 208, z 209, z 210, z 211, z 212, z 213, z 214, z 215, z 216, z 217, z 218, z 219, z 220, z 221, z 222, z 223, z 224, z 225, z 226, z 227, z 228, z 229, z 230, z 231, z 232, z 233, z 234, z 235, z 236, z 237, z 238, z 239, z 240, z 241, z 242, z 243, z 244, z 245, z 246, z 247, z 248, z 249, z 250, z 251, z 252, z 253, z 254, z 255, z 256, z 257, z 258, z 259, z 260, z 261, z 262, z 263, z 264, z 265, z 266, z 267, z 268, z 269, z 270, z 271, z 272, z 273, z 274, z 275, z 276, z 277, z 278, z 279, z 280, z 281, z 282, z 283, z 284, z 285, z 286, z 287, z 288, z 289, z 290, z 291, z 292, z 293, z 294, z 295, z 296, z 297, z 298, z 299, z 300, z 301, z 302, z 303, z 304, z 305, z 306, z 307, z 308, z 309, z 310, z 311, z 312, z 313, z 314, z 315, z 316, z 317, z 318, z 319, z 320, z 321, z 322, z 323, z 324, z 325, z 326, z 327, z 328, z 329, z 330, z 331, z 332, z 333, z 334, z 335, z 336, z 337, z 338, z 339, z 340, z 341, z 342, z 343, z 344, z 345, z 346, z 347, z 348, z 349, z 350, z 351, z 352, z 353, z 354, z 355, z 356, z 357, z 358, z 359, z 360, z 361, z 362, z 363, z 364, z 365, z 366, z 367, z 368, z 369, z 370, z 371, z 372, z 373, z 374, z 375, z 376, z 377, z 378, z 379, z 380, z 381, z 382, z 383, z 384, z 385, z 386, z 387, z 388, z 389, z 390, z 391, z 392, z 393, z 394, z 395, z 396, z 397, z 398, z 399, z 400, z 401, z 402, z 403, z 404, z 405, z 406, z 407, z 408, z 409, z 410, z 411, z 412, z 413, z 414, z 415, z 416, z 417, z 418, z 419, z 420, z 421, z 422, z 423, z 424, z 425, z 426, z 427, z 428, z 429, z 430, z 431, z 432, z 433, z 434, z 435, z 436, z 437, z 438, z 439, z 440, z 441, z 442, z 443, z 444, z 445, z 446, z 447, z 448, z 449, z 450, z 451, z 452, z 453, z 454, z 455, z 456, z 457, z 458, z 459, z 460, z 461, z 462, z 463, z 464, z 465, z 466, z 467, z 468, z 469, z 470, z 471, z 472, z 473, z 474, z 475, z 476, z 477, z 478, z 479, z 480, z 481, z 482, z 483, z 484, z 485, z 486, z 487, z 488, z 489, z 490, z 491, z 492, z 493, z 494, z 495, z 496, z 497, z 498, z 499], []⟩ w := by
  have HB := Lib.hid hB
  obtain ⟨n0, n5, n10, n11, n35, n13, n50, n65281, n23, n16, n18, n43, n44, n51, n42, n45, n57, n41, n65037⟩ := hty
  have q0 : ¬ ((ty : Nat) : Int) = 0 := by omega
  have q5 : ¬ ((ty : Nat) : Int) = 5 := by omega
  have q10 : ¬ ((ty : Nat) : Int) = 10 := by omega
  have q11 : ¬ ((ty : Nat) : Int) = 11 := by omega
  have q35 : ¬ ((ty : Nat) : Int) = 35 := by omega
  have q13 : ¬ ((ty : Nat) : Int) = 13 := by omega
  have q50 : ¬ ((ty : Nat) : Int) = 50 := by omega
  have q65281 : ¬ ((ty : Nat) : Int) = 65281 := by omega
  have q23 : ¬ ((ty : Nat) : Int) = 23 := by omega
  have q16 : ¬ ((ty : Nat) : Int) = 16 := by omega
  have q18 : ¬ ((ty : Nat) : Int) = 18 := by omega
  have q43 : ¬ ((ty : Nat) : Int) = 43 := by omega
  have q44 : ¬ ((ty : Nat) : Int) = 44 := by omega
  have q51 : ¬ ((ty : Nat) : Int) = 51 := by omega
  have q42 : ¬ ((ty : Nat) : Int) = 42 := by omega
  have q45 : ¬ ((ty : Nat) : Int) = 45 := by omega
  have q57 : ¬ ((ty : Nat) : Int) = 57 := by omega
  have q41 : ¬ ((ty : Nat) : Int) = 41 := by omega
  have q65037 : ¬ ((ty : Nat) : Int) = 65037 := by omega
  have hx : Hid (chExt f ty d ex = some (f, [])) := Lib.hid (by unfold chExt; simp only [n0, n5, n10, n11, n35, n13, n50, n65281, n23, n16, n18, n43, n44, n51, n42, n45, n57, n41, n65037, if_false])
  clear hB n0 n5 n10 n11 n35 n13 n50 n65281 n23 n16 n18 n43 n44 n51 n42 n45 n57 n41 n65037
  conv => arg 2; whnf
  go_wp2_with fail
  exact ⟨rfl, rfl, .inr ⟨f, [], hx.out, ⟨rfl, rfl, rfl, rfl⟩, .inl ⟨rfl, rfl, HB.out.take 3⟩⟩⟩

set_option maxRecDepth 100000 in
set_option maxHeartbeats 8000000 in
theorem ch_sw_11 {w0 w : World} {C : Array Value} {g m eB tB dB mb : Nat} {seen : List Nat} {ex : List UInt8} {f : CH} {d : List UInt8} (z : Nat → Value) 
    (hB : Bn w0 C g m (chBs C g m eB tB ex 11 f ++ [(dB, [.vw d])]) (some (mb, seen)) w) :
    Code.wp Tryz.prog chSwitch (ChSw w0 C g m eB dB mb seen (chBs C g m eB tB ex 11) f 11 d ex) ⟨#[.pointer (some ⟨m, 0, none⟩), z 1, z 2, z 3, z 4, z 5, z 6, z 7, .pointer (some ⟨eB, 0, none⟩), .map (some mb), z 10, .pointer (some ⟨dB, 0, none⟩), z 12, z 13, z 14, z 15, z 16, z 17, z 18, z 19, z 20, z 21, z 22, z 23, z 24, z 25, z 26, z 27, z 28, z 29, z 30, z 31, z 32, z 33, z 34, z 35, z 36, z 37, z 38, z 39, z 40, z 41, z 42, z 43, z 44, z 45, z 46, z 47, z 48, z 49, z 50, z 51, z 52, z 53, z 54, z 55, z 56, z 57, z 58, z 59, z 60, z 61, z 62, z 63, z 64, z 65, z 66, z 67, z 68, z 69, z 70, z 71, z 72, z 73, z 74, z 75, z 76, z 77, z 78, z 79, z 80, z 81, z 82, z 83, z 84, z 85, z 86, z 87, z 88, z 89, z 90, z 91, z 92, z 93, z 94, z 95, z 96, z 97, z 98, z 99, z 100, z 101, z 102, z 103, z 104, z 105, z 106, z 107, z 108, z 109, z 110, z 111, z 112, z 113, z 114, z 115, z 116, z 117, z 118, z 119, z 120, z 121, z 122, z 123, z 124, z 125, z 126, z 127, z 128, .int .u16 11, z 130, z 131, z 132, z 133, z 134, z 135, z 136, z 137, z 138, z 139, z 140, z 141, z 142, z 143, z 144, z 145, z 146, z 147, z 148, z 149, z 150, z 151, z 152, z 153, z 154, z 155, z 156, z 157, z 158, z 159, z 160, z 161, z 162, z 163, z 164, z 165, z 166, z 167, z 168, z 169, z 170, z 171, z 172, z 173, z 174, z 175, z 176, z 177, z 178, z 179, z 180, z 181, z 182, z 183, z 184, z 185, z 186, z 187, z 188, z 189, z 190, z 191, z 192, z 193, z 194, z 195, z 196, z 197, z 198, z 199, z 200, z 201, z 202, z 203, z 204, z 205, z 206, z 207, z 208, z 209, z 210, z 211, z 212, z 213, z 214, z 215, z 216, z 217, z 218, z 219, z 220, z 221, z 222, z 223, z 224, z 225, z 226, z 227, z 228, z 229, z 230, z 231, z 232, z 233, z 234, z 235, z 236, z 237, z 238, z 239, z 240, z 241, z 242, z 243, z 244, z 245, z 246, z 247, z 248, z 249, z 250, z 251, z 252, z 253, z 254, z 255, z 256, z 257, z 258, z 259, z 260, z 261, z 262, z 263, z 264, z 265, z 266, z 267, z 268, z 269, z 270, z 271, z 272, z 273, z 274, z 275, z 276, z 277, z 278, z 279, z 280, z 281, z 282, z 283, z 284, z 285, z 286, z 287, z 288, z 289, z 290, z 291, z 292, z 293, z 294, z 295, z 296, z 297, z 298, z 299, z 300, z 301, z 302, z 303, z 304, z 305, z 306, z 307, z 308, z 309, z 310, z 311, z 312, z 313, z 314, z 315, z 316, z 317, z 318, z 319, z 320, z 321, z 322, z 323, z 324, z 325, z 326, z 327, z 328, z 329, z 330, z 331, z 332, z 333, z 334, z 335, z 336, z 337, z 338, z 339, z 340, z 341, z 342, z 343, z 344, z 345, z 346, z 347, z 348, z 349, z 350, z 351, z 352, z 353, z 354, z 355, z 356, z 357, z 358, z 359, z 360, z 361, z 362, z 363, z 364, z 365, z 366, z 367, z 368, z 369, z 370, z 371, z 372, z 373, z 374, z 375, z 376, z 377, z 378, z 379, z 380, z 381, z 382, z 383, z 384, z 385, z 386, z 387, z 388, z 389, z 390, z 391, z 392, z 393, z 394, z 395, z 396, z 397, z 398, z 399, z 400, z 401, z 402, z 403, z 404, z 405, z 406, z 407, z 408, z 409, z 410, z 411, z 412, z 413, z 414, z 415, z 416, z 417, z 418, z 419, z 420, z 421, z 422, z 423, z 424, z 425, z 426, z 427, z 428, z 429, z 430, z 431, z 432, z 433, z 434, z 435, z 436, z 437, z 438, z 439, z 440, z 441, z 442, z 443, z 444, z 445, z 446, z 447, z 448, z 449, z 450, z 451, z 452, z 453, z 454, z 455, z 456, z 457, z 458, z 459, z 460, z 461, z 462, z 463, z 464, z 465, z 466, z 467, z 468, z 469, z 470, z 471, z 472, z 473, z 474, z 475, z 476, z 477, z 478, z 479, z 480, z 481, z 482, z 483, z 484, z 485, z 486, z 487, z 488, z 489, z 490, z 491, z 492, z 493, z 494, z 495, z 496, z 497, z 498, z 499], []⟩ w := by
  have HB := Lib.hid hB
  clear hB
  conv => arg 2; whnf
  go_wp2_with fail
  cases hr : rdv 1 d with
  | none =>
    have HR := Lib.hid hr
    clear hr
    refine (bt8_no HB.out HR.out (b := 3) (i := 0) rfl rfl _).mono ?_
    rintro e wx ⟨rfl, hf⟩
    have HF := Lib.hid hf
    clear hf
    go_wp2_with fail
    exact ⟨rfl, rfl, .inl ⟨rfl, by simp [chExt, HR.out], rfl, HF.out⟩⟩
  | some y =>
    obtain ⟨x, r⟩ := y
    have HR := Lib.hid hr
    clear hr
    refine (bt8 HB.out HR.out (b := 3) (i := 0) rfl rfl (c := 0) (j := 9) rfl rfl (.vn x) rfl (fun _ h => .inr h) (by decide)).mono ?_
    rintro e w1 ⟨rfl, hb⟩
    have hb : Bn w0 C g m (chBs C g m eB tB ex 11 { f with points := x } ++ [(dB, [.vw r])]) (some (mb, seen)) w1 := hb
    have HB2 := Lib.hid hb
    obtain ⟨v, hv, hvn⟩ := hb.vn (b := 0) (i := 9) rfl rfl
    obtain ⟨av, cv, rfl, _⟩ := hvn.len
    clear hb hvn
    by_cases h0 : x = []
    · subst h0
      go_wp2_with fail
      exact ⟨rfl, rfl, .inl ⟨rfl, by simp [chExt, HR.out], rfl, HB2.out.fs⟩⟩
    · have hl0 : ¬ x.length = 0 := fun h => h0 (List.length_eq_zero_iff.1 h)
      have hl1 : ¬ ((x.length : Nat) : Int) = 0 := by omega
      have hl2 : (((x.length : Nat) : Int) == 0) = false := by simpa using hl0
      have H0 := Lib.hid h0
      clear h0
      go_wp2_with fail
      exact ⟨rfl, rfl, .inr ⟨{ f with points := x }, r, by simp [chExt, HR.out, H0.out], ⟨rfl, rfl, rfl, rfl⟩, .inr ⟨rfl, rfl, HB2.out⟩⟩⟩

set_option maxRecDepth 100000 in
set_option maxHeartbeats 8000000 in
theorem ch_sw_65281 {w0 w : World} {C : Array Value} {g m eB tB dB mb : Nat} {seen : List Nat} {ex : List UInt8} {f : CH} {d : List UInt8} (z : Nat → Value) 
    (hB : Bn w0 C g m (chBs C g m eB tB ex 65281 f ++ [(dB, [.vw d])]) (some (mb, seen)) w) :
    Code.wp Tryz.prog chSwitch (ChSw w0 C g m eB dB mb seen (chBs C g m eB tB ex 65281) f 65281 d ex) ⟨#[.pointer (some ⟨m, 0, none⟩), z 1, z 2, z 3, z 4, z 5, z 6, z 7, .pointer (some ⟨eB, 0, none⟩), .map (some mb), z 10, .pointer (some ⟨dB, 0, none⟩), z 12, z 13, z 14, z 15, z 16, z 17, z 18, z 19, z 20, z 21, z 22, z 23, z 24, z 25, z 26, z 27, z 28, z 29, z 30, z 31, z 32, z 33, z 34, z 35, z 36, z 37, z 38, z 39, z 40, z 41, z 42, z 43, z 44, z 45, z 46, z 47, z 48, z 49, z 50, z 51, z 52, z 53, z 54, z 55, z 56, z 57, z 58, z 59, z 60, z 61, z 62, z 63, z 64, z 65, z 66, z 67, z 68, z 69, z 70, z 71, z 72, z 73, z 74, z 75, z 76, z 77, z 78, z 79, z 80, z 81, z 82, z 83, z 84, z 85, z 86, z 87, z 88, z 89, z 90, z 91, z 92, z 93, z 94, z 95, z 96, z 97, z 98, z 99, z 100, z 101, z 102, z 103, z 104, z 105, z 106, z 107, z 108, z 109, z 110, z 111, z 112, z 113, z 114, z 115, z 116, z 117, z 118, z 119, z 120, z 121, z 122, z 123, z 124, z 125, z 126, z 127, z 128, .int .u16 65281, z 130, z 131, z 132, z 133, z 134, z 135, z 136, z 137, z 138, z 139, z 140, z 141, z 142, z 143, z 144, z 145, z 146, z 147, z 148, z 149, z 150, z 151, z 152, z 153, z 154, z 155, z 156, z 157, z 158, z 159, z 160, z 161, z 162, z 163, z 164, z 165, z 166, z 167, z 168, z 169, z 170, z 171, z 172, z 173, z 174, z 175, z 176, z 177, z 178, z 179, z 180, z 181, z 182, z 183, z 184, z 185, z 186, z 187, z 188, z 189, z 190, z 191, z 192, z 193, z 194, z 195, z 196, z 197, z 198, z 199, z 200, z 201, z 202, z 203, z 204, z 205, z 206, z 207, z 208, z 209, z 210, z 211, z 212, z 213, z 214, z 215, z 216, z 217, z 218, z 219, z 220, z 221, z 222, z 223, z 224, z 225, z 226, z 227, z 228, z 229, z 230, z 231, z 232, z 233, z 234, z 235, z 236, z 237, z 238, z 239, z 240, z 241, z 242, z 243, z 244, z 245, z 246, z 247, z 248, z 249, z 250, z 251, z 252, z 253, z 254, z 255, z 256, z 257, z 258, z 259, z 260, z 261, z 262, z 263, z 264, z 265, z 266, z 267, z 268, z 269, z 270, z 271, z 272, z 273, z 274, z 275, z 276, z 277, z 278, z 279, z 280, z 281, z 282, z 283, z 284, z 285, z 286, z 287, z 288, z 289, z 290, z 291, z 292, z 293, z 294, z 295, z 296, z 297, z 298, z 299, z 300, z 301, z 302, z 303, z 304, z 305, z 306, z 307, z 308, z 309, z 310, z 311, z 312, z 313, z 314, z 315, z 316, z 317, z 318, z 319, z 320, z 321, z 322, z 323, z 324, z 325, z 326, z 327, z 328, z 329, z 330, z 331, z 332, z 333, z 334, z 335, z 336, z 337, z 338, z 339, z 340, z 341, z 342, z 343, z 344, z 345, z 346, z 347, z 348, z 349, z 350, z 351, z 352, z 353, z 354, z 355, z 356, z 357, z 358, z 359, z 360, z 361, z 362, z 363, z 364, z 365, z 366, z 367, z 368, z 369, z 370, z 371, z 372, z 373, z 374, z 375, z 376, z 377, z 378, z 379, z 380, z 381, z 382, z 383, z 384, z 385, z 386, z 387, z 388, z 389, z 390, z 391, z 392, z 393, z 394, z 395, z 396, z 397, z 398, z 399, z 400, z 401, z 402, z 403, z 404, z 405, z 406, z 407, z 408, z 409, z 410, z 411, z 412, z 413, z 414, z 415, z 416, z 417, z 418, z 419, z 420, z 421, z 422, z 423, z 424, z 425, z 426, z 427, z 428, z 429, z 430, z 431, z 432, z 433, z 434, z 435, z 436, z 437, z 438, z 439, z 440, z 441, z 442, z 443, z 444, z 445, z 446, z 447, z 448, z 449, z 450, z 451, z 452, z 453, z 454, z 455, z 456, z 457, z 458, z 459, z 460, z 461, z 462, z 463, z 464, z 465, z 466, z 467, z 468, z 469, z 470, z 471, z 472, z 473, z 474, z 475, z 476, z 477, z 478, z 479, z 480, z 481, z 482, z 483, z 484, z 485, z 486, z 487, z 488, z 489, z 490, z 491, z 492, z 493, z 494, z 495, z 496, z 497, z 498, z 499], []⟩ w := by
  have HB := Lib.hid hB
  clear hB
  conv => arg 2; whnf
  go_wp2_with fail
  cases hr : rdv 1 d with
  | none =>
    have HR := Lib.hid hr
    clear hr
    refine (bt8_no HB.out HR.out (b := 3) (i := 0) rfl rfl _).mono ?_
    rintro e wx ⟨rfl, hf⟩
    have HF := Lib.hid hf
    clear hf
    go_wp2_with fail
    exact ⟨rfl, rfl, .inl ⟨rfl, by simp [chExt, HR.out], rfl, HF.out⟩⟩
  | some y =>
    obtain ⟨x, r⟩ := y
    have HR := Lib.hid hr
    clear hr
    refine (bt8 HB.out HR.out (b := 3) (i := 0) rfl rfl (c := 0) (j := 15) rfl rfl (.vn x) rfl (fun _ h => .inr h) (by decide)).mono ?_
    rintro e w1 ⟨rfl, hb⟩
    have hb : Bn w0 C g m (chBs C g m eB tB ex 65281 { f with sr := x } ++ [(dB, [.vw r])]) (some (mb, seen)) w1 := hb
    have HB2 := Lib.hid hb
    have q := hb.val (b := 0) (i := 14) rfl rfl
    have qz := hb.frozen (b := 0) rfl 14
    have HB3 := Lib.hid (hb.set (b := 0) (i := 14) rfl rfl (.val (.bool true)) _ rfl rfl)
    clear hb
    go_wp2_with fail
    exact ⟨rfl, rfl, .inr ⟨{ f with sr := x, srs := true }, r, by simp [chExt, HR.out], ⟨rfl, rfl, rfl, rfl⟩, .inr ⟨rfl, rfl, HB3.out⟩⟩⟩

set_option maxRecDepth 100000 in
set_option maxHeartbeats 8000000 in
theorem ch_sw_44 {w0 w : World} {C : Array Value} {g m eB tB dB mb : Nat} {seen : List Nat} {ex : List UInt8} {f : CH} {d : List UInt8} (z : Nat → Value) 
    (hB : Bn w0 C g m (chBs C g m eB tB ex 44 f ++ [(dB, [.vw d])]) (some (mb, seen)) w) :
    Code.wp Tryz.prog chSwitch (ChSw w0 C g m eB dB mb seen (chBs C g m eB tB ex 44) f 44 d ex) ⟨#[.pointer (some ⟨m, 0, none⟩), z 1, z 2, z 3, z 4, z 5, z 6, z 7, .pointer (some ⟨eB, 0, none⟩), .map (some mb), z 10, .pointer (some ⟨dB, 0, none⟩), z 12, z 13, z 14, z 15, z 16, z 17, z 18, z 19, z 20, z 21, z 22, z 23, z 24, z 25, z 26, z 27, z 28, z 29, z 30, z 31, z 32, z 33, z 34, z 35, z 36, z 37, z 38, z 39, z 40, z 41, z 42, z 43, z 44, z 45, z 46, z 47, z 48, z 49, z 50, z 51, z 52, z 53, z 54, z 55, z 56, z 57, z 58, z 59, z 60, z 61, z 62, z 63, z 64, z 65, z 66, z 67, z 68, z 69, z 70, z 71, z 72, z 73, z 74, z 75, z 76, z 77, z 78, z 79, z 80, z 81, z 82, z 83, z 84, z 85, z 86, z 87, z 88, z 89, z 90, z 91, z 92, z 93, z 94, z 95, z 96, z 97, z 98, z 99, z 100, z 101, z 102, z 103, z 104, z 105, z 106, z 107, z 108, z 109, z 110, z 111, z 112, z 113, z 114, z 115, z 116, z 117, z 118, z 119, z 120, z 121, z 122, z 123, z 124, z 125, z 126, z 127, z 128, .int .u16 44, z 130, z 131, z 132, z 133, z 134, z 135, z 136, z 137, z 138, z 139, z 140, z 141, z 142, z 143, z 144, z 145, z 146, z 147, z 148, z 149, z 150, z 151, z 152, z 153, z 154, z 155, z 156, z 157, z 158, z 159, z 160, z 161, z 162, z 163, z 164, z 165, z 166, z 167, z 168, z 169, z 170, z 171, z 172, z 173, z 174, z 175, z 176, z 177, z 178, z 179, z 180, z 181, z 182, z 183, z 184, z 185, z 186, z 187, z 188, z 189, z 190, z 191, z 192, z 193, z 194, z 195, z 196, z 197, z 198, z 199, z 200, z 201, z 202, z 203, z 204, z 205, z 206, z 207, z 208, z 209, z 210, z 211, z 212, z 213, z 214, z 215, z 216, z 217, z 218, z 219, z 220, z 221, z 222, z 223, z 224, z 225, z 226, z 227, z 228, z 229, z 230, z 231, z 232, z 233, z 234, z 235, z 236, z 237, z 238, z 239, z 240, z 241, z 242, z 243, z 244, z 245, z 246, z 247, z 248, z 249, z 250, z 251, z 252, z 253, z 254, z 255, z 256, z 257, z 258, z 259, z 260, z 261, z 262, z 263, z 264, z 265, z 266, z 267, z 268, z 269, z 270, z 271, z 272, z 273, z 274, z 275, z 276, z 277, z 278, z 279, z 280, z 281, z 282, z 283, z 284, z 285, z 286, z 287, z 288, z 289, z 290, z 291, z 292, z 293, z 294, z 295, z 296, z 297, z 298, z 299, z 300, z 301, z 302, z 303, z 304, z 305, z 306, z 307, z 308, z 309, z 310, z 311, z 312, z 313, z 314, z 315, z 316, z 317, z 318, z 319, z 320, z 321, z 322, z 323, z 324, z 325, z 326, z 327, z 328, z 329, z 330, z 331, z 332, z 333, z 334, z 335, z 336, z 337, z 338, z 339, z 340, z 341, z 342, z 343, z 344, z 345, z 346, z 347, z 348, z 349, z 350, z 351, z 352, z 353, z 354, z 355, z 356, z 357, z 358, z 359, z 360, z 361, z 362, z 363, z 364, z 365, z 366, z 367, z 368, z 369, z 370, z 371, z 372, z 373, z 374, z 375, z 376, z 377, z 378, z 379, z 380, z 381, z 382, z 383, z 384, z 385, z 386, z 387, z 388, z 389, z 390, z 391, z 392, z 393, z 394, z 395, z 396, z 397, z 398, z 399, z 400, z 401, z 402, z 403, z 404, z 405, z 406, z 407, z 408, z 409, z 410, z 411, z 412, z 413, z 414, z 415, z 416, z 417, z 418, z 419, z 420, z 421, z 422, z 423, z 424, z 425, z 426, z 427, z 428, z 429, z 430, z 431, z 432, z 433, z 434, z 435, z 436, z 437, z 438, z 439, z 440, z 441, z 442, z 443, z 444, z 445, z 446, z 447, z 448, z 449, z 450, z 451, z 452, z 453, z 454, z 455, z 456, z 457, z 458, z 459, z 460, z 461, z 462, z 463, z 464, z 465, z 466, z 467, z 468, z 469, z 470, z 471, z 472, z 473, z 474, z 475, z 476, z 477, z 478, z 479, z 480, z 481, z 482, z 483, z 484, z 485, z 486, z 487, z 488, z 489, z 490, z 491, z 492, z 493, z 494, z 495, z 496, z 497, z 498, z 499], []⟩ w := by
  have HB := Lib.hid hB
  clear hB
  conv => arg 2; whnf
  go_wp2_with fail
  cases hr : rdv 2 d with
  | none =>
    have HR := Lib.hid hr
    clear hr
    refine (bt16_no HB.out HR.out (b := 3) (i := 0) rfl rfl _).mono ?_
    rintro e wx ⟨rfl, hf⟩
    have HF := Lib.hid hf
    clear hf
    go_wp2_with fail
    exact ⟨rfl, rfl, .inl ⟨rfl, by simp [chExt, HR.out], rfl, HF.out⟩⟩
  | some y =>
    obtain ⟨x, r⟩ := y
    have HR := Lib.hid hr
    clear hr
    refine (bt16 HB.out HR.out (b := 3) (i := 0) rfl rfl (c := 0) (j := 20) rfl rfl (.vn x) rfl (fun _ h => .inr h) (by decide)).mono ?_
    rintro e w1 ⟨rfl, hb⟩
    have hb : Bn w0 C g m (chBs C g m eB tB ex 44 { f with cookie := x } ++ [(dB, [.vw r])]) (some (mb, seen)) w1 := hb
    have HB2 := Lib.hid hb
    obtain ⟨v, hv, hvn⟩ := hb.vn (b := 0) (i := 20) rfl rfl
    obtain ⟨av, cv, rfl, _⟩ := hvn.len
    clear hb hvn
    by_cases h0 : x = []
    · subst h0
      go_wp2_with fail
      exact ⟨rfl, rfl, .inl ⟨rfl, by simp [chExt, HR.out], rfl, HB2.out.fs⟩⟩
    · have hl0 : ¬ x.length = 0 := fun h => h0 (List.length_eq_zero_iff.1 h)
      have hl1 : ¬ ((x.length : Nat) : Int) = 0 := by omega
      have hl2 : (((x.length : Nat) : Int) == 0) = false := by simpa using hl0
      have H0 := Lib.hid h0
      clear h0
      go_wp2_with fail
      exact ⟨rfl, rfl, .inr ⟨{ f with cookie := x }, r, by simp [chExt, HR.out, H0.out], ⟨rfl, rfl, rfl, rfl⟩, .inr ⟨rfl, rfl, HB2.out⟩⟩⟩

set_option maxRecDepth 100000 in
set_option maxHeartbeats 8000000 in
theorem ch_sw_45 {w0 w : World} {C : Array Value} {g m eB tB dB mb : Nat} {seen : List Nat} {ex : List UInt8} {f : CH} {d : List UInt8} (z : Nat → Value) 
    (hB : Bn w0 C g m (chBs C g m eB tB ex 45 f ++ [(dB, [.vw d])]) (some (mb, seen)) w) :
    Code.wp Tryz.prog chSwitch (ChSw w0 C g m eB dB mb seen (chBs C g m eB tB ex 45) f 45 d ex) ⟨#[.pointer (some ⟨m, 0, none⟩), z 1, z 2, z 3, z 4, z 5, z 6, z 7, .pointer (some ⟨eB, 0, none⟩), .map (some mb), z 10, .pointer (some ⟨dB, 0, none⟩), z 12, z 13, z 14, z 15, z 16, z 17, z 18, z 19, z 20, z 21, z 22, z 23, z 24, z 25, z 26, z 27, z 28, z 29, z 30, z 31, z 32, z 33, z 34, z 35, z 36, z 37, z 38, z 39, z 40, z 41, z 42, z 43, z 44, z 45, z 46, z 47, z 48, z 49, z 50, z 51, z 52, z 53, z 54, z 55, z 56, z 57, z 58, z 59, z 60, z 61, z 62, z 63, z 64, z 65, z 66, z 67, z 68, z 69, z 70, z 71, z 72, z 73, z 74, z 75, z 76, z 77, z 78, z 79, z 80, z 81, z 82, z 83, z 84, z 85, z 86, z 87, z 88, z 89, z 90, z 91, z 92, z 93, z 94, z 95, z 96, z 97, z 98, z 99, z 100, z 101, z 102, z 103, z 104, z 105, z 106, z 107, z 108, z 109, z 110, z 111, z 112, z 113, z 114, z 115, z 116, z 117, z 118, z 119, z 120, z 121, z 122, z 123, z 124, z 125, z 126, z 127, z 128, .int .u16 45, z 130, z 131, z 132, z 133, z 134, z 135, z 136, z 137, z 138, z 139, z 140, z 141, z 142, z 143, z 144, z 145, z 146, z 147, z 148, z 149, z 150, z 151, z 152, z 153, z 154, z 155, z 156, z 157, z 158, z 159, z 160, z 161, z 162, z 163, z 164, z 165, z 166, z 167, z 168, z 169, z 170, z 171, z 172, z 173, z 174, z 175, z 176, z 177, z 178, z 179, z 180, z 181, z 182, z 183, z 184, z 185, z 186, z 187, z 188, z 189, z 190, z 191, z 192, z 193, z 194, z 195, z 196, z 197, z 198, z 199, z 200, z 201, z 202, z 203, z 204, z 205, z 206, z 207, z 208, z 209, z 210, z 211, z 212, z 213, z 214, z 215, z 216, z 217, z 218, z 219, z 220, z 221, z 222, z 223, z 224, z 225, z 226, z 227, z 228, z 229, z 230, z 231, z 232, z 233, z 234, z 235, z 236, z 237, z 238, z 239, z 240, z 241, z 242, z 243, z 244, z 245, z 246, z 247, z 248, z 249, z 250, z 251, z 252, z 253, z 254, z 255, z 256, z 257, z 258, z 259, z 260, z 261, z 262, z 263, z 264, z 265, z 266, z 267, z 268, z 269, z 270, z 271, z 272, z 273, z 274, z 275, z 276, z 277, z 278, z 279, z 280, z 281, z 282, z 283, z 284, z 285, z 286, z 287, z 288, z 289, z 290, z 291, z 292, z 293, z 294, z 295, z 296, z 297, z 298, z 299, z 300, z 301, z 302, z 303, z 304, z 305, z 306, z 307, z 308, z 309, z 310, z 311, z 312, z 313, z 314, z 315, z 316, z 317, z 318, z 319, z 320, z 321, z 322, z 323, z 324, z 325, z 326, z 327, z 328, z 329, z 330, z 331, z 332, z 333, z 334, z 335, z 336, z 337, z 338, z 339, z 340, z 341, z 342, z 343, z 344, z 345, z 346, z 347, z 348, z 349, z 350, z 351, z 352, z 353, z 354, z 355, z 356, z 357, z 358, z 359, z 360, z 361, z 362, z 363, z 364, z 365, z 366, z 367, z 368, z 369, z 370, z 371, z 372, z 373, z 374, z 375, z 376, z 377, z 378, z 379, z 380, z 381, z 382, z 383, z 384, z 385, z 386, z 387, z 388, z 389, z 390, z 391, z 392, z 393, z 394, z 395, z 396, z 397, z 398, z 399, z 400, z 401, z 402, z 403, z 404, z 405, z 406, z 407, z 408, z 409, z 410, z 411, z 412, z 413, z 414, z 415, z 416, z 417, z 418, z 419, z 420, z 421, z 422, z 423, z 424, z 425, z 426, z 427, z 428, z 429, z 430, z 431, z 432, z 433, z 434, z 435, z 436, z 437, z 438, z 439, z 440, z 441, z 442, z 443, z 444, z 445, z 446, z 447, z 448, z 449, z 450, z 451, z 452, z 453, z 454, z 455, z 456, z 457, z 458, z 459, z 460, z 461, z 462, z 463, z 464, z 465, z 466, z 467, z 468, z 469, z 470, z 471, z 472, z 473, z 474, z 475, z 476, z 477, z 478, z 479, z 480, z 481, z 482, z 483, z 484, z 485, z 486, z 487, z 488, z 489, z 490, z 491, z 492, z 493, z 494, z 495, z 496, z 497, z 498, z 499], []⟩ w := by
  have HB := Lib.hid hB
  clear hB
  conv => arg 2; whnf
  go_wp2_with fail
  cases hr : rdv 1 d with
  | none =>
    have HR := Lib.hid hr
    clear hr
    refine (bt8_no HB.out HR.out (b := 3) (i := 0) rfl rfl _).mono ?_
    rintro e wx ⟨rfl, hf⟩
    have HF := Lib.hid hf
    clear hf
    go_wp2_with fail
    exact ⟨rfl, rfl, .inl ⟨rfl, by simp [chExt, HR.out], rfl, HF.out⟩⟩
  | some y =>
    obtain ⟨x, r⟩ := y
    have HR := Lib.hid hr
    clear hr
    refine (bt8 HB.out HR.out (b := 3) (i := 0) rfl rfl (c := 0) (j := 23) rfl rfl (.vn x) rfl (fun _ h => .inr h) (by decide)).mono ?_
    rintro e w1 ⟨rfl, hb⟩
    have hb : Bn w0 C g m (chBs C g m eB tB ex 45 { f with modes := x } ++ [(dB, [.vw r])]) (some (mb, seen)) w1 := hb
    have HB2 := Lib.hid hb
    clear hb
    go_wp2_with fail
    exact ⟨rfl, rfl, .inr ⟨{ f with modes := x }, r, by simp [chExt, HR.out], ⟨rfl, rfl, rfl, rfl⟩, .inr ⟨rfl, rfl, HB2.out⟩⟩⟩

end Go.Proofs.YtopcljikkdlffaaGreat
