/- What the reference makes of the bytes of a ClientHello, in plain words on lists. No program and no memory stand here. cryptobyte.String's CopyBytes into a row that was just made. The cells of a clientHelloMsg, and the pieces of its unmarshal. The reference's reader: numbers of 16 bits; texts; what the bundles of a ClientHello need. No statement of the seat is proved here. -/
import Derived.Test.YtopcljikkdlffaaX15
import Derived.Test.YtopcljikkdlffaaX12
import Derived.Test.YtopcljikkdlffaaX09
import Derived.Test.YtopcljikkdlffaaX08
import Derived.Test.YtopcljikkdlffaaX11
import Derived.Test.YtopcljikkdlffaaX14
import Derived.Deep.CutBlock
import Derived.StillTailTactics
import Derived.Carry
import Derived.Test.YtopcljikkdlffaaX06
namespace Go.Proofs.Ytopcljikkdlffaa
open Go.RowKit

/-- Numbers of 16 bits until nothing is left. -/
def rw16 : Nat → Nat × List UInt8 → List Nat × (Nat × List UInt8)
  | 0, sp => ([], sp)
  | f + 1, sp => if sp.2 = [] then ([], sp) else ((rnum 2 sp).1 :: (rw16 f (rnum 2 sp).2).1, (rw16 f (rnum 2 sp).2).2)

theorem rw16_nil (f : Nat) (sp : Nat × List UInt8) (h : sp.2 = []) : rw16 f sp = ([], sp) := by
  cases f with
  | zero => rfl
  | succ f => show (if sp.2 = [] then _ else _) = _; rw [if_pos h]
theorem rw16_succ (f : Nat) (sp : Nat × List UInt8) (h : sp.2 ≠ []) : rw16 (f + 1) sp = ((rnum 2 sp).1 :: (rw16 f (rnum 2 sp).2).1, (rw16 f (rnum 2 sp).2).2) := by
  show (if sp.2 = [] then _ else _) = _
  rw [if_neg h]

/-- Numbers out of bytes bx. -/
def rwords (st : Nat × List UInt8) (bx : List UInt8) : List Nat × (Nat × List UInt8) := ((rw16 bx.length (rin st bx)).1, rdone st (rw16 bx.length (rin st bx)).2)

/-- Vectors out of bytes bx. -/
def rvecsIn (k low : Nat) (st : Nat × List UInt8) (bx : List UInt8) : List (List UInt8) × (Nat × List UInt8) := ((rvecs k low bx.length (rin st bx)).1, rdone st (rvecs k low bx.length (rin st bx)).2)

/-- Numbers in a vector; vectors in a vector. -/
def rvw (k high : Nat) (st : Nat × List UInt8) : List Nat × (Nat × List UInt8) := rwords (rvec k 2 high st).2 (rvec k 2 high st).1
def rvv (st : Nat × List UInt8) : List (List UInt8) × (Nat × List UInt8) := rvecsIn 1 1 (rvec 2 2 65535 st).2 (rvec 2 2 65535 st).1

/-- A number of one byte, of which one alone is spoken of. -/
def rkind (kind : Nat) (st : Nat × List UInt8) : Nat × List UInt8 := if (rnum 1 st).1 = kind then (rnum 1 st).2 else rfail 1 (rnum 1 st).2

/-- A name; nothing is said of one that ends in a dot, nor of further ones. -/
def rhost (h : List UInt8 × (Nat × List UInt8)) : Nat × List UInt8 := if h.1 ≠ [] ∧ (h.1.getLast? = some 46 ∨ h.2.2 ≠ []) then rfail 1 h.2 else h.2
def rname1 (st : Nat × List UInt8) : List UInt8 × (Nat × List UInt8) := rvec 2 1 65535 (rkind 0 (rin (rvec 2 1 65535 st).2 (rvec 2 1 65535 st).1))
def rname (st : Nat × List UInt8) : List UInt8 × (Nat × List UInt8) := ((rname1 st).1, rdone (rvec 2 1 65535 st).2 (rhost (rname1 st)))

/-- Key shares until nothing is left. -/
def rsh : Nat → Nat × List UInt8 → List (Nat × List UInt8) × (Nat × List UInt8)
  | 0, y => ([], y)
  | f + 1, y => if y.2 = [] then ([], y) else (((rnum 2 y).1, (rvec 2 1 65535 (rnum 2 y).2).1) :: (rsh f (rvec 2 1 65535 (rnum 2 y).2).2).1, (rsh f (rvec 2 1 65535 (rnum 2 y).2).2).2)

theorem rsh_nil (f : Nat) (sp : Nat × List UInt8) (h : sp.2 = []) : rsh f sp = ([], sp) := by
  cases f with
  | zero => rfl
  | succ f => show (if sp.2 = [] then _ else _) = _; rw [if_pos h]
theorem rsh_succ (f : Nat) (y : Nat × List UInt8) (h : y.2 ≠ []) : rsh (f + 1) y = (((rnum 2 y).1, (rvec 2 1 65535 (rnum 2 y).2).1) :: (rsh f (rvec 2 1 65535 (rnum 2 y).2).2).1, (rsh f (rvec 2 1 65535 (rnum 2 y).2).2).2) := by
  show (if y.2 = [] then _ else _) = _
  rw [if_neg h]

def rshares (st : Nat × List UInt8) : List (Nat × List UInt8) × (Nat × List UInt8) :=
  ((rsh (rvec 2 0 65535 st).1.length (rin (rvec 2 0 65535 st).2 (rvec 2 0 65535 st).1)).1, rdone (rvec 2 0 65535 st).2 (rsh (rvec 2 0 65535 st).1.length (rin (rvec 2 0 65535 st).2 (rvec 2 0 65535 st).1)).2)

/-- Identities of keys until nothing is left. -/
def rid : Nat → Nat × List UInt8 → List (List UInt8 × Nat) × (Nat × List UInt8)
  | 0, y => ([], y)
  | f + 1, y => if y.2 = [] then ([], y) else (((rvec 2 1 65535 y).1, (rnum 4 (rvec 2 1 65535 y).2).1) :: (rid f (rnum 4 (rvec 2 1 65535 y).2).2).1, (rid f (rnum 4 (rvec 2 1 65535 y).2).2).2)

theorem rid_nil (f : Nat) (sp : Nat × List UInt8) (h : sp.2 = []) : rid f sp = ([], sp) := by
  cases f with
  | zero => rfl
  | succ f => show (if sp.2 = [] then _ else _) = _; rw [if_pos h]
theorem rid_succ (f : Nat) (y : Nat × List UInt8) (h : y.2 ≠ []) : rid (f + 1) y = (((rvec 2 1 65535 y).1, (rnum 4 (rvec 2 1 65535 y).2).1) :: (rid f (rnum 4 (rvec 2 1 65535 y).2).2).1, (rid f (rnum 4 (rvec 2 1 65535 y).2).2).2) := by
  show (if y.2 = [] then _ else _) = _
  rw [if_neg h]

def rids (st : Nat × List UInt8) : List (List UInt8 × Nat) × (Nat × List UInt8) :=
  ((rid (rvec 2 7 65535 st).1.length (rin (rvec 2 7 65535 st).2 (rvec 2 7 65535 st).1)).1, rdone (rvec 2 7 65535 st).2 (rid (rvec 2 7 65535 st).1.length (rin (rvec 2 7 65535 st).2 (rvec 2 7 65535 st).1)).2)

/-- No list of bytes has a length in a range. -/
def rnone (low high : Nat) (L : List (List UInt8)) : Bool := L.all fun x => !(decide (low ≤ x.length) && decide (x.length ≤ high))

/-- Binders, behind n identities. -/
def rbind (n : Nat) (st : Nat × List UInt8) : List (List UInt8) × (Nat × List UInt8) :=
  ((rvv st).1, if (rvv st).2.1 = 0 ∧ ((rvv st).1.length ≠ n ∨ rnone 1 31 (rvv st).1 = false) then rfail 1 (rvv st).2 else (rvv st).2)

theorem rvecs_many (k low : Nat) (hk : 0 < k) : ∀ (n : Nat) (sp : Nat × List UInt8), (rvecs k low n sp).1.length ≤ sp.2.length
  | 0, sp => by simp [rvecs]
  | n + 1, sp => by
    by_cases h : sp.2 = []
    · simp [rvecs, h]
    · have e : rvecs k low (n + 1) sp = ((rvec k low (256 ^ k - 1) sp).1 :: (rvecs k low n (rvec k low (256 ^ k - 1) sp).2).1, (rvecs k low n (rvec k low (256 ^ k - 1) sp).2).2) := by
        show (if sp.2 = [] then _ else _) = _
        rw [if_neg h]
      rw [e]
      have h1 := rvecs_many k low hk n (rvec k low (256 ^ k - 1) sp).2
      have h2 := rvec_rest (low := low) (high := 256 ^ k - 1) hk h
      simp only [List.length_cons]
      omega
theorem rvecs_many2 (k low : Nat) (hk : 0 < k) (st : Nat × List UInt8) (bx : List UInt8) : (rvecs k low bx.length (rin st bx)).1.length ≤ bx.length := by
  have h := rvecs_many k low hk bx.length (rin st bx)
  have e : (rin st bx).2.length ≤ bx.length := by
    unfold rin
    dsimp only
    split <;> simp
  omega

/-- Modes: none is not spoken of. -/
def rmodes (st : Nat × List UInt8) : Nat × List UInt8 := if (rvec 1 0 255 st).1 = [] then rfail 1 (rvec 1 0 255 st).2 else (rvec 1 0 255 st).2

/-- One extension of TLS 1.3: what becomes of the fields and of the reader. -/
def rcext13 (kind : Nat) (f : CH) (st : Nat × List UInt8) : CH × (Nat × List UInt8) :=
  if kind = 43 then ({ f with vers13 := (rvw 1 255 st).1 }, (rvw 1 255 st).2)
  else if kind = 44 then ({ f with cookie := (rvec 2 1 65535 st).1 }, (rvec 2 1 65535 st).2)
  else if kind = 51 then ({ f with shares := f.shares ++ (rshares st).1 }, (rshares st).2)
  else if kind = 42 then ({ f with early := true }, st)
  else if kind = 45 then ({ f with modes := (rvec 1 0 255 st).1 }, rmodes st)
  else if kind = 57 then ({ f with quic := some st.2 }, (st.1, []))
  else if kind = 65037 then ({ f with ech := (rrest st).1 }, (rrest st).2)
  else if kind = 41 then ({ f with psks := f.psks ++ (rids st).1, binders := (rbind (f.psks ++ (rids st).1).length (rids st).2).1 }, (rbind (f.psks ++ (rids st).1).length (rids st).2).2)
  else (f, (st.1, []))

/-- One extension. -/
def rcext (kind : Nat) (f : CH) (st : Nat × List UInt8) : CH × (Nat × List UInt8) :=
  if kind = 0 then ({ f with name := (rname st).1 }, (rname st).2)
  else if kind = 5 then ({ f with ocsp := true }, (rvec 2 0 65535 (rvec 2 0 65535 (rkind 1 st)).2).2)
  else if kind = 10 then ({ f with curves := (rvw 2 65535 st).1 }, (rvw 2 65535 st).2)
  else if kind = 11 then ({ f with points := (rvec 1 1 255 st).1 }, (rvec 1 1 255 st).2)
  else if kind = 35 then ({ f with ticket := true, tickets := st.2 }, (st.1, []))
  else if kind = 13 then ({ f with sigs := (rvw 2 65535 st).1 }, (rvw 2 65535 st).2)
  else if kind = 50 then ({ f with sigsC := (rvw 2 65535 st).1 }, (rvw 2 65535 st).2)
  else if kind = 65281 then ({ f with srs := true, sr := (rvec 1 0 255 st).1 }, (rvec 1 0 255 st).2)
  else if kind = 23 then ({ f with ems := true }, st)
  else if kind = 16 then ({ f with alpn := (rvv st).1 }, (rvv st).2)
  else if kind = 18 then ({ f with scts := true }, st)
  else rcext13 kind f st

end Go.Proofs.Ytopcljikkdlffaa
namespace Go.Proofs.Ytopcljikkdlffaa
open Go.RowKit

theorem convS_ok {w : World} {v : Value} {s : List UInt8} (h : Src w v s) : (convert 152 9 v).run Try.prog w = .ok (.string ⟨s.toArray⟩) w := by
  rcases h with ⟨rfl, rfl⟩ | ⟨ad, cap, rfl, hc⟩
  · rw [run_convert_bytes_string w _ _ 5 none 0 0 Try.underlying152 Try.underlying5 Try.underlying9]
    simp [Conv.bytesToString, Sem.run_pure]
    rfl
  · refine run_convert_bytes_back w _ _ 5 ad cap s Try.underlying152 Try.underlying5 Try.underlying9 fun j hj => hc j _ ?_
    simp [List.getElem?_map, List.getElem?_eq_getElem hj, by8]

set_option maxRecDepth 100000 in
set_option maxHeartbeats 1000000 in
theorem copyB_ok {C : Array Value} {p h g : Nat} {T Tp : TypeId} {fr : Nat × Nat} {v : Value} {bs : List UInt8} (w : World) (hg : w.heap[g]? = some (.cells C T fr)) (hV : View C g v bs)
    (hp : w.heap[p]? = some (.cells #[v] Tp (0, 0))) (hh : w.heap[h]? = some (.cells (List.replicate bs.length (Value.int .u8 0)).toArray 5 (0, 0))) (hpg : g ≠ p) (hph : p ≠ h) (hgh : g ≠ h) :
    Calls Try.prog 103 #[.pointer (some ⟨p, 0, none⟩), .slice (some ⟨h, 0, none⟩) bs.length bs.length] w fun e w' => ∃ v2, e = .returned (.bool true) ∧ View C g v2 [] ∧
      w'.heap[p]? = some (.cells #[v2] Tp (0, 0)) ∧ w'.heap[h]? = some (.cells (bs.map by8).toArray 5 (0, 0)) ∧ Fs [p, h] w w' := by
  have hr : rd ((bs.length : Nat) : Int).toNat bs = some (bs, []) := by rw [Int.toNat_natCast]; simp [rd]
  have HR := Lib.hid hr
  have HV := Lib.hid hV
  have HG := Lib.hid hg
  have HP := Lib.hid hp
  have HH := Lib.hid hh
  have c0 := cell_head hp
  have cz : w.frozen? ⟨p, 0, none⟩ = false := frozen_of_heap hp
  obtain ⟨n, hn⟩ : ∃ n, n = bs.length := ⟨_, rfl⟩
  have HN := Lib.hid hn
  rw [← hn] at HR ⊢
  clear hr hV hg hp hh hn
  go_enter Try.func103, Try.ntmps103
  go_wp2_with fail
  refine (read_yes ⟨p, 0, none⟩ n w (by omega) HR.out HV.out c0 cz).mono ?_
  rintro e w1 ⟨v1, v2, rfl, hv1, hv2, rfl⟩
  obtain ⟨off, cap, rfl, hcl, hcm, hcc⟩ := hv1
  rw [← HN.out] at hcl hcc ⊢
  have hcopy := run_copy_row (P := Try.prog) (w.setCell ⟨p, 0, none⟩ v2) 22 22 3 5 h 0 n n ⟨g, off, none⟩ n cap (List.replicate bs.length (Value.int .u8 0)).toArray 5 (bs.map by8) Try.underlying22 infoSize8 (heap_past HH.out hph) (by rw [List.length_map, ← HN.out]; exact (Nat.min_self n).symm)
    (fun j u hu => by
      have hj : j < bs.length := by have := (List.getElem?_eq_some_iff.1 hu).1; simpa using this
      rw [add_plain, cell_of_heap (heap_past HG.out (fun e => hpg e.symm)), hcc j (by rw [HN.out]; exact hj)]
      rw [List.getElem?_map, List.getElem?_eq_getElem hj] at hu
      simp only [Option.map_some, Option.some.injEq] at hu
      rw [← hu]
      simp [hj])
    (by simp) (fun u hu => by
      obtain ⟨b, _, rfl⟩ := List.mem_map.1 hu
      rfl)
  have hc2 : (List.replicate bs.length (Value.int .u8 0)).toArray.toList.take 0 ++ bs.map by8 ++ (List.replicate bs.length (Value.int .u8 0)).toArray.toList.drop (0 + (bs.map by8).length) = bs.map by8 := by simp
  rw [hc2, List.length_map, ← HN.out] at hcopy
  have HV2 := Lib.hid hv2
  clear hcc hv2 hc2
  go_wp2_with fail
  go_ret
  refine ⟨v2, rfl, HV2.out, ?_, ?_, ?_⟩
  · rw [setRow_other _ _ _ _ hph]
    exact (heap_set_same HP.out).trans rfl
  · exact setRow_heap _ _ _ _ _ _ (heap_past HH.out hph)
  · refine ((Fs.refl _ w).set p 0 _ (by simp)).trans ⟨rfl, rfl, rfl, by rw [size_setRow]; exact Nat.le_refl _, fun k _ hn => ?_⟩
    exact setRow_other _ _ _ _ (fun e => hn (by simp [e]))

end Go.Proofs.Ytopcljikkdlffaa
namespace Go.Proofs.Ytopcljikkdlffaa
open Go.RowKit

set_option maxRecDepth 100000 in
theorem arr500 (s : Array Value) (h : s.size = 500) : ∃ z : Nat → Value, s = #[z 0, z 1, z 2, z 3, z 4, z 5, z 6, z 7, z 8, z 9, z 10, z 11, z 12, z 13, z 14, z 15, z 16, z 17, z 18, z 19, z 20, z 21, z 22, z 23, z 24, z 25, z 26, z 27, z 28, z 29, z 30, z 31, z 32, z 33, z 34, z 35, z 36, z 37, z 38, z 39, z 40, z 41, z 42, z 43, z 44, z 45, z 46, z 47, z 48, z 49, z 50, z 51, z 52, z 53, z 54, z 55, z 56, z 57, z 58, z 59, z 60, z 61, z 62, z 63, z 64, z 65, z 66, z 67, z 68, z 69, z 70, z 71, z 72, z 73, z 74, z 75, z 76, z 77, z 78, z 79, z 80, z 81, z 82, z 83, z 84, z 85, z 86, z 87, z 88, z 89, z 90, z 91, z 92, z 93, z 94, z 95, z 96, z 97, z 98, z 99, z 100, z 101, z 102, z 103, z 104, z 105, z 106, z 107, z 108, z 109, z 110, z 111, z 112, z 113, z 114, z 115, z 116, z 117, z 118, z 119, z 120, z 121, z 122, z 123, z 124, z 125, z 126, z 127, z 128, z 129, z 130, z 131, z 132, z 133, z 134, z 135, z 136, z 137, z 138, z 139, z 140, z 141, z 142, z 143, z 144, z 145, z 146, z 147, z 148, z 149, z 150, z 151, z 152, z 153, z 154, z 155, z 156, z 157, z 158, z 159, z 160, z 161, z 162, z 163, z 164, z 165, z 166, z 167, z 168, z 169, z 170, z 171, z 172, z 173, z 174, z 175, z 176, z 177, z 178, z 179, z 180, z 181, z 182, z 183, z 184, z 185, z 186, z 187, z 188, z 189, z 190, z 191, z 192, z 193, z 194, z 195, z 196, z 197, z 198, z 199, z 200, z 201, z 202, z 203, z 204, z 205, z 206, z 207, z 208, z 209, z 210, z 211, z 212, z 213, z 214, z 215, z 216, z 217, z 218, z 219, z 220, z 221, z 222, z 223, z 224, z 225, z 226, z 227, z 228, z 229, z 230, z 231, z 232, z 233, z 234, z 235, z 236, z 237, z 238, z 239, z 240, z 241, z 242, z 243, z 244, z 245, z 246, z 247, z 248, z 249, z 250, z 251, z 252, z 253, z 254, z 255, z 256, z 257, z 258, z 259, z 260, z 261, z 262, z 263, z 264, z 265, z 266, z 267, z 268, z 269, z 270, z 271, z 272, z 273, z 274, z 275, z 276, z 277, z 278, z 279, z 280, z 281, z 282, z 283, z 284, z 285, z 286, z 287, z 288, z 289, z 290, z 291, z 292, z 293, z 294, z 295, z 296, z 297, z 298, z 299, z 300, z 301, z 302, z 303, z 304, z 305, z 306, z 307, z 308, z 309, z 310, z 311, z 312, z 313, z 314, z 315, z 316, z 317, z 318, z 319, z 320, z 321, z 322, z 323, z 324, z 325, z 326, z 327, z 328, z 329, z 330, z 331, z 332, z 333, z 334, z 335, z 336, z 337, z 338, z 339, z 340, z 341, z 342, z 343, z 344, z 345, z 346, z 347, z 348, z 349, z 350, z 351, z 352, z 353, z 354, z 355, z 356, z 357, z 358, z 359, z 360, z 361, z 362, z 363, z 364, z 365, z 366, z 367, z 368, z 369, z 370, z 371, z 372, z 373, z 374, z 375, z 376, z 377, z 378, z 379, z 380, z 381, z 382, z 383, z 384, z 385, z 386, z 387, z 388, z 389, z 390, z 391, z 392, z 393, z 394, z 395, z 396, z 397, z 398, z 399, z 400, z 401, z 402, z 403, z 404, z 405, z 406, z 407, z 408, z 409, z 410, z 411, z 412, z 413, z 414, z 415, z 416, z 417, z 418, z 419, z 420, z 421, z 422, z 423, z 424, z 425, z 426, z 427, z 428, z 429, z 430, z 431, z 432, z 433, z 434, z 435, z 436, z 437, z 438, z 439, z 440, z 441, z 442, z 443, z 444, z 445, z 446, z 447, z 448, z 449, z 450, z 451, z 452, z 453, z 454, z 455, z 456, z 457, z 458, z 459, z 460, z 461, z 462, z 463, z 464, z 465, z 466, z 467, z 468, z 469, z 470, z 471, z 472, z 473, z 474, z 475, z 476, z 477, z 478, z 479, z 480, z 481, z 482, z 483, z 484, z 485, z 486, z 487, z 488, z 489, z 490, z 491, z 492, z 493, z 494, z 495, z 496, z 497, z 498, z 499] := by
  obtain ⟨z, hz⟩ := arr_of 500 s h
  exact ⟨z, hz⟩

theorem Try.info35b : (Try.prog.info? 35).map (fun i => (i.zero, i.size, i.bytes)) = some (some (.int .u16 0), 1, 2) := by kernel_rfl
theorem Try.info9b : (Try.prog.info? 9).map (fun i => (i.zero, i.size, i.bytes)) = some (some (.string ⟨#[]⟩), 1, 16) := by kernel_rfl
theorem Try.info129b : (Try.prog.info? 129).map (fun i => (i.zero, i.size, i.bytes)) = some (some (.agg #[.int .u16 0, .slice none 0 0]), 2, 32) := by kernel_rfl
theorem Try.info145b : (Try.prog.info? 145).map (fun i => (i.zero, i.size, i.bytes)) = some (some (.agg #[.slice none 0 0, .int .u32 0]), 2, 32) := by kernel_rfl
theorem Try.info22c : (Try.prog.info? 22).map (fun i => (i.zero, i.size, i.bytes)) = some (some (.slice none 0 0), 1, 24) := by kernel_rfl

/-- Numbers; texts; key shares; pre-shared keys; QUIC parameters. -/
def ShowU (L : List Nat) (_ : Value) (us : List Value) : Prop := us = L.map fun n => Value.int .u16 (n : Nat)
def ShowT (L : List (List UInt8)) (_ : Value) (us : List Value) : Prop := us = L.map fun s => Value.string ⟨s.toArray⟩
def ShowK (C : Array Value) (g : Nat) (L : List (Nat × List UInt8)) (_ : Value) (us : List Value) : Prop :=
  ∀ (j : Nat) (x : Nat × List UInt8), L[j]? = some x → us[2 * j]? = some (.int .u16 (x.1 : Nat)) ∧ ∃ u, us[2 * j + 1]? = some u ∧ VN C g u x.2
def ShowP (C : Array Value) (g : Nat) (L : List (List UInt8 × Nat)) (_ : Value) (us : List Value) : Prop :=
  ∀ (j : Nat) (x : List UInt8 × Nat), L[j]? = some x → (∃ u, us[2 * j]? = some u ∧ VN C g u x.1) ∧ us[2 * j + 1]? = some (.int .u32 (x.2 : Nat))
def ShowQ (q : Option (List UInt8)) (v : Value) (us : List Value) : Prop := us = (q.getD []).map by8 ∧ ∃ a n c, v = .slice a n c ∧ a.isSome = q.isSome

theorem ShowU.snoc {L : List Nat} {v v' : Value} {us : List Value} {n : Nat} (h : ShowU L v us) : ShowU (L ++ [n]) v' (us ++ [.int .u16 (n : Nat)]) := by
  unfold ShowU at *; rw [h]; simp
theorem ShowT.snoc {L : List (List UInt8)} {v v' : Value} {us : List Value} {s : List UInt8} (h : ShowT L v us) : ShowT (L ++ [s]) v' (us ++ [.string ⟨s.toArray⟩]) := by
  unfold ShowT at *; rw [h]; simp
theorem pair_at {us : List Value} {a b : Value} {n j : Nat} (hl : us.length = n * 2) (hj : j < n + 1) : (j < n → (us ++ [a, b])[2 * j]? = us[2 * j]? ∧ (us ++ [a, b])[2 * j + 1]? = us[2 * j + 1]?) ∧ (j = n → (us ++ [a, b])[2 * j]? = some a ∧ (us ++ [a, b])[2 * j + 1]? = some b) := by
  refine ⟨fun h => ⟨List.getElem?_append_left (by omega), List.getElem?_append_left (by omega)⟩, fun h => ⟨?_, ?_⟩⟩
  · rw [List.getElem?_append_right (by omega), show 2 * j - us.length = 0 by omega]; rfl
  · rw [List.getElem?_append_right (by omega), show 2 * j + 1 - us.length = 1 by omega]; rfl
theorem ShowK.snoc {C : Array Value} {g : Nat} {L : List (Nat × List UInt8)} {v v' u : Value} {us : List Value} {n : Nat} {s : List UInt8} (h : ShowK C g L v us) (hl : us.length = L.length * 2) (hu : VN C g u s) : ShowK C g (L ++ [(n, s)]) v' (us ++ [.int .u16 (n : Nat), u]) := by
  intro j x hj
  have hjl : j < L.length + 1 := by have := (List.getElem?_eq_some_iff.1 hj).1; simpa using this
  obtain ⟨p1, p2⟩ := pair_at (a := .int .u16 (n : Nat)) (b := u) hl hjl
  rcases Nat.lt_or_ge j L.length with hlt | hge
  · rw [List.getElem?_append_left hlt] at hj
    rw [(p1 hlt).1, (p1 hlt).2]
    exact h j x hj
  · have e : j = L.length := by omega
    rw [(p2 e).1, (p2 e).2]
    rw [List.getElem?_append_right hge, show j - L.length = 0 by omega] at hj
    cases hj
    exact ⟨rfl, u, rfl, hu⟩
theorem ShowP.snoc {C : Array Value} {g : Nat} {L : List (List UInt8 × Nat)} {v v' u : Value} {us : List Value} {n : Nat} {s : List UInt8} (h : ShowP C g L v us) (hl : us.length = L.length * 2) (hu : VN C g u s) : ShowP C g (L ++ [(s, n)]) v' (us ++ [u, .int .u32 (n : Nat)]) := by
  intro j x hj
  have hjl : j < L.length + 1 := by have := (List.getElem?_eq_some_iff.1 hj).1; simpa using this
  obtain ⟨p1, p2⟩ := pair_at (a := u) (b := .int .u32 (n : Nat)) hl hjl
  rcases Nat.lt_or_ge j L.length with hlt | hge
  · rw [List.getElem?_append_left hlt] at hj
    rw [(p1 hlt).1, (p1 hlt).2]
    exact h j x hj
  · have e : j = L.length := by omega
    rw [(p2 e).1, (p2 e).2]
    rw [List.getElem?_append_right hge, show j - L.length = 0 by omega] at hj
    cases hj
    exact ⟨⟨u, rfl, hu⟩, rfl⟩

/-- The cells of a clientHelloMsg. -/
def chF (C : Array Value) (g : Nat) (f : CH) : List FD := [.any, .val (.int .u16 (f.vers : Nat)), .vn f.random, .vn f.session, .own 35 1 f.suites.length (ShowU f.suites), .vn f.comps,
  .val (.string ⟨f.name.toArray⟩), .val (.bool f.ocsp), .own 35 1 f.curves.length (ShowU f.curves), .vn f.points, .val (.bool f.ticket), .vn f.tickets,
  .own 35 1 f.sigs.length (ShowU f.sigs), .own 35 1 f.sigsC.length (ShowU f.sigsC), .val (.bool f.srs), .vn f.sr, .val (.bool f.ems), .own 9 1 f.alpn.length (ShowT f.alpn), .val (.bool f.scts),
  .own 35 1 f.vers13.length (ShowU f.vers13), .vn f.cookie, .own 129 2 f.shares.length (ShowK C g f.shares), .val (.bool f.early), .vn f.modes, .own 145 2 f.psks.length (ShowP C g f.psks),
  .own 22 1 f.binders.length (ShowL C g f.binders), .own 5 1 (f.quic.getD []).length (ShowQ f.quic), .vn f.ech, .own 35 1 f.exts.length (ShowU f.exts)]

noncomputable def chSwitch : Code := ((Try.f89.body.bind (pblk 4)).getD .skip)
noncomputable def chExtBody : Code := (((Try.f89.body.bind (pblk 2)).bind ploop).getD .skip)

/-- What later code reads of the frame. -/
def ChFrame (s : Array Value) (m eB mb : Nat) : Prop := s.size = 500 ∧ s[0]? = some (.pointer (some ⟨m, 0, none⟩)) ∧ s[8]? = some (.pointer (some ⟨eB, 0, none⟩)) ∧ s[9]? = some (.map (some mb))

/-- What the switch leaves of one extension. -/
def ChSw (w0 : World) (C : Array Value) (g m eB dB mb : Nat) (seen : List Nat) (Bs : CH → List (Nat × List FD)) (f : CH) (ty : Nat) (d rest : List UInt8) (e : Exit) (a : Act) (w' : World) : Prop :=
  a.defers = [] ∧ a.tmps.size = 500 ∧
    ((e = .ret ∧ chExt f ty d rest = none ∧ a.tmps[4]? = some (.bool false) ∧ Fs [m] w0 w') ∨
     ∃ f' r, chExt f ty d rest = some (f', r) ∧ ChFrame a.tmps m eB mb ∧
      ((e = .exit 3 ∧ r = [] ∧ Bn w0 C g m (Bs f') (some (mb, seen)) w') ∨ (e = .normal ∧ a.tmps[11]? = some (.pointer (some ⟨dB, 0, none⟩)) ∧ Bn w0 C g m (Bs f' ++ [(dB, [.vw r])]) (some (mb, seen)) w')))

theorem ChSw_panic {w0 : World} {C : Array Value} {g m eB dB mb : Nat} {seen : List Nat} {Bs : CH → List (Nat × List FD)} {f : CH} {ty : Nat} {d rest : List UInt8} {c : List PanicEntry} {a : Act} {w' : World} (h : ChSw w0 C g m eB dB mb seen Bs f ty d rest (.panic c) a w') : False := by
  obtain ⟨_, _, ⟨h, _⟩ | ⟨_, _, _, _, ⟨h, _⟩ | ⟨h, _⟩⟩⟩ := h <;> cases h

/-- The blocks around one extension. -/
def chBs (C : Array Value) (g m eB tB : Nat) (ex : List UInt8) (ty : Nat) (f : CH) : List (Nat × List FD) :=
  [(m, chF C g f), (eB, [.vw ex]), (tB, [.val (.int .u16 (ty : Nat))])]

end Go.Proofs.Ytopcljikkdlffaa
namespace Go.Proofs.Ytopcljikkdlffaa
open Go.RowKit

/-- A row of numbers of its own. -/
def OutU (w : World) (base : Nat) (v : Value) (L : List Nat) : Prop := ∃ us, w.ownsRow base 35 1 v L.length us ∧ ShowU L v us

set_option maxRecDepth 100000 in
set_option maxHeartbeats 2000000 in
theorem words_ok {c g : Nat} {C : Array Value} {T : TypeId} {fr : Nat × Nat} {st : Nat × List UInt8} {u : Value} {bx : List UInt8} (w : World) (hg : w.heap[g]? = some (.cells C T fr)) (hgc : g ≠ c) (hbl : bx.length ≤ 2147483647)
    (hu : VN C g u bx) (hR : RAt w c C g st) :
    Calls Try.prog 61 #[.pointer (some ⟨c, 0, none⟩), u] w fun e w' => ∃ o, e = .returned o ∧ OutU w' w.heap.size o (rwords st bx).1 ∧ RAt w' c C g (rwords st bx).2 ∧ Fs [c] w w' := by
  obtain ⟨i0, hi, hz0, hz1, hz2⟩ := info_parts Try.info35b
  have HR := Lib.hid hR
  have HG := Lib.hid hg
  have HU := Lib.hid hu
  have hcl : c < w.heap.size := by obtain ⟨v, hh, _⟩ := hR; exact lt_of_heap hh
  have hgl := lt_of_heap hg
  obtain ⟨a, cap, rfl, _, _⟩ := hu.len
  clear hR hg hu
  go_enter Try.func61, Try.ntmps61
  go_wp2_with fail
  refine (within_ok w HU.out HR.out).mono ?_
  rintro e w1 ⟨rfl, hp1, hf1⟩
  have HP1 : Hid (RAt w1 w.heap.size C g (rin st bx)) := hp1
  have HF1 := Lib.hid hf1
  clear hp1 hf1
  go_wp2_with fail
  go_loopw [5] (fun o wr => ∃ (don : List Nat) (sp : Nat × List UInt8) (f : Nat), OutU wr w.heap.size o don ∧ RAt wr w.heap.size C g sp ∧ sp.2.length ≤ f ∧ sp.2.length + don.length ≤ 2147483647 ∧
      don ++ (rw16 f sp).1 = (rw16 bx.length (rin st bx)).1 ∧ (rw16 f sp).2 = (rw16 bx.length (rin st bx)).2 ∧ Fs [w.heap.size] w wr) (fun _ wr => cellLen wr w.heap.size)
  case atStart =>
    refine ⟨[], rin st bx, bx.length, ⟨[], World.ownsRow_nil _ _ _ _, rfl⟩, HP1.out, ?_, ?_, rfl, rfl, HF1.out.mono (by simp)⟩
    · unfold rin; split <;> simp
    · unfold rin; split <;> simp <;> omega
  case round =>
    obtain ⟨don, sp, f, hout, hp, hf, hlen, he1, he2, hfs⟩ := hrel
    obtain ⟨code, bs⟩ := sp
    obtain ⟨v2, hh, hv2⟩ := id hp
    obtain ⟨a2, cap2, rfl, _, _⟩ := hv2.len
    simp only at hh hf hlen
    have f0 : wr.cell? ⟨w.heap.size, 0, none⟩ = some (.slice a2 bs.length cap2) := by rw [cell_of_heap hh]; rfl
    have HP := Lib.hid hp
    have HOUT := Lib.hid hout
    have HFS := Lib.hid hfs
    have HH := Lib.hid hh
    have HE1 := Lib.hid he1
    have HE2 := Lib.hid he2
    have hcl2 := HP.out.cellLen
    clear hp hout hfs hh hv2 he1 he2
    by_cases h0 : bs = []
    · subst h0
      have hz : rw16 f (code, []) = ([], (code, [])) := rw16_nil f _ rfl
      have he1 := HE1.out
      have he2 := HE2.out
      rw [hz] at he1 he2
      simp only [List.append_nil] at he1 he2
      have HE3 := Lib.hid he1
      have HE4 := Lib.hid he2
      have HRr := Lib.hid (HR.out.fs HFS.out (by simp; omega))
      obtain ⟨us, hown, hus⟩ := HOUT.out
      obtain ⟨ao, co, rfl⟩ := row_slice hown
      have HO := Lib.hid hown
      have HUS := Lib.hid hus
      clear he1 he2 hz hown hus hcl2
      go_wp2_with fail
      refine (done_ok wr (by omega : c ≠ w.heap.size) HRr.out HP.out).mono ?_
      rintro e w5 ⟨rfl, hr5, hf5⟩
      have hown5 : w5.ownsRow w.heap.size 35 1 (.slice ao don.length co) don.length us := by
        refine ⟨HO.out.1, ?_⟩
        rcases HO.out.2 with h2 | ⟨g', cp, cur, hv, hg', hh', r⟩
        · exact .inl h2
        · refine .inr ⟨g', cp, cur, hv, hg', (hf5.keep g' (lt_of_heap hh') ?_).trans hh', r⟩
          intro hm
          rcases List.mem_cons.1 hm with e | e
          · omega
          · have e2 : g' = w.heap.size := by simpa using e
            subst e2
            rw [HH.out] at hh'
            simp at hh'
      have HO5 := Lib.hid hown5
      have HR5 := Lib.hid hr5
      have HF5 : Hid (Fs [c] w w5) := (((HFS.out.mono (l' := [w.heap.size, c]) (by simp)).trans (hf5.mono (by simp))).fresh (Nat.le_refl _))
      clear hr5 hf5 hown5
      go_wp2_with fail
      go_ret
      have e1 : (rwords st bx).1 = don := HE3.out.symm
      have e2 : (rwords st bx).2 = rdone st (code, []) := by
        show rdone st (rw16 bx.length (rin st bx)).2 = _
        rw [← HE4.out]
      rw [e1, e2]
      exact ⟨_, rfl, ⟨us, HO5.out, HUS.out⟩, HR5.out, HF5.out⟩
    · have hl : ((bs.length : Nat) : Int) > 0 := by have := List.length_pos_iff.2 h0; omega
      obtain ⟨f, rfl⟩ : ∃ f', f = f' + 1 := ⟨f - 1, by omega⟩
      have hgr : wr.heap[g]? = some (.cells C T fr) := (HFS.out.keep g hgl (by simp; omega)).trans HG.out
      have HGR := Lib.hid hgr
      clear hgr
      obtain ⟨us, hown, hus⟩ := HOUT.out
      obtain ⟨ao, co, rfl⟩ := row_slice hown
      go_wp2_with fail
      refine (num_ok 2 wr (by omega) HGR.out (by omega) HP.out).mono ?_
      rintro e w2 ⟨rfl, hp2, hf2⟩
      have hX := rnum_rest (k := 2) (st := (code, bs)) (by omega) h0
      have hY := rw16_succ f (code, bs) h0
      have he1 := HE1.out
      have he2 := HE2.out
      rw [hY] at he1 he2
      have hYl := rnum_lt (k := 2) (st := (code, bs))
      obtain ⟨Y, hYd⟩ : ∃ Y, Y = rnum 2 (code, bs) := ⟨_, rfl⟩
      rw [← hYd] at hX hp2 he1 he2 hYl ⊢
      obtain ⟨y, hyd⟩ : ∃ y, y = Y.1 := ⟨_, rfl⟩
      rw [← hyd] at he1 hYl ⊢
      have hw16 : IntKind.u16.wrap ((y : Nat) : Int) = (y : Int) := by simp [IntKind.wrap, IntKind.signed, IntKind.bits]; omega
      have HE1 := Lib.hid he1
      have HE2 := Lib.hid he2
      have hown2 := own_fm hown hf2 HH.out (by decide)
      have HO2 := Lib.hid hown2
      have HUS := Lib.hid hus
      have HP2 := Lib.hid hp2
      have HF2 := Lib.hid hf2
      have hw2 : w.heap.size ≤ w2.heap.size := Nat.le_trans HFS.out.size hf2.size
      clear hown hus hp2 hf2 he1 he2 hY hYd hyd hown2 hcl2 hYl
      simp only at hX
      go_wp2_with (at_builtin; go_loud (refine wpList_append_own _ rfl (.tmp 16) (.tmp 20) 48 rfl w.heap.size 35 i0 (.int .u16 0) 1 2 Try.underlying48 hi hz0 hz1 hz2 rfl (by decide) _ don.length us rfl (HO2.out.alloc _) ⟨w2.heap.size, 0, none⟩ 1 1 [.int .u16 (y : Nat)] rfl rfl ?_ ?_ ?_ ?_ ?_ ?_))
      · intro j u hu
        match j, hu with
        | 0, hu => simp at hu; subst hu; exact World.cell?_alloc_new _ _ _ _
      · intro u hu; simp at hu; subst hu; rfl
      · unfold maxLen; omega
      · omega
      · simp; omega
      intro v' w3 hown3 hgrow _
      obtain ⟨ao3, co3, rfl⟩ := row_slice hown3
      have hp3 : RAt w3 w.heap.size C g Y.2 := by
        obtain ⟨vv, hh2, hvv⟩ := HP2.out
        exact ⟨vv, grown_keep hgrow (HO2.out.alloc _) ((Below.heap_alloc _ _ _ (lt_of_heap hh2)).trans hh2) (.inl (by decide)), hvv⟩
      have hfs3 : Fs [w.heap.size] w w3 := by
        have h2 := HFS.out.trans (HF2.out.fs (by simp))
        refine ⟨hgrow.os.trans h2.os, hgrow.tape.trans h2.tape, hgrow.output.trans h2.output, ?_, fun i hi' hn => ?_⟩
        · have h := hgrow.size; simp at h; omega
        · have hb : (w2.alloc (Obj.cells #[Value.int .u16 (y : Nat)] 35)).heap[i]? = w2.heap[i]? := Below.heap_alloc _ _ _ (by omega)
          rw [← h2.keep i hi' hn, ← hb]
          refine hgrow.block i (by simp; omega) ?_
          intro h
          rcases (HO2.out.alloc (Obj.cells #[Value.int .u16 (y : Nat)] 35)).2 with ⟨e, _⟩ | ⟨g', cp, cur, e, hb', _⟩
          · rw [e] at h; cases h
          · rw [e] at h
            simp only [Value.ownBlock, Option.some.injEq] at h
            omega
      have HO3 := Lib.hid hown3
      have HP3 := Lib.hid hp3
      have HFS3 := Lib.hid hfs3
      clear hown3 hgrow hp3 hfs3
      have hul : us.length = don.length := by have h := HO2.out.1; omega
      have HUL := Lib.hid hul
      clear hul
      go_wp2_with fail
      refine ⟨⟨don ++ [y], Y.2, f, ⟨us ++ [.int .u16 (y : Nat)], by simpa using HO3.out, HUS.out.snoc⟩, HP3.out, by omega, by simp; omega, by rw [List.append_assoc]; exact HE1.out, HE2.out, HFS3.out⟩, by rw [HP3.out.cellLen, HP.out.cellLen]; exact hX⟩

end Go.Proofs.Ytopcljikkdlffaa
