/- cryptobyte.String's CopyBytes into a row that was just made. The cells of a clientHelloMsg, and the pieces of its unmarshal. The reference's reader: numbers of 16 bits; texts; what the bundles of a ClientHello need. The reference: texts out of lists of bytes; whether a list has a number; whether lists of bytes are long enough; the numbers of extensions. Bundles: a row that was appended to and is not yet stored; two rows that grow in one statement. The reference's ClientHello as a bundle; what a reader's functions leave of it. Lists of numbers, of texts and of identities, as the reference compares them. No statement of the seat is proved here. -/
import Derived.Test.YtopcljikkdlffaaGreatX05
import Derived.Test.YtopcljikkdlffaaGreatX07
import Derived.Test.YtopcljikkdlffaaGreatX08
import Derived.Deep.CutBlock
import Derived.StillTailTactics
import Derived.Carry
import Derived.Laws.IdiomStrings
namespace Go.Proofs.YtopcljikkdlffaaGreat
open Go.RowKit

theorem convS_ok {w : World} {v : Value} {s : List UInt8} (h : Src w v s) : (convert 69 9 v).run Tryz.prog w = .ok (.string ⟨s.toArray⟩) w := by
  rcases h with ⟨rfl, rfl⟩ | ⟨ad, cap, rfl, hc⟩
  · rw [run_convert_bytes_string w _ _ 5 none 0 0 Tryz.underlying69 Tryz.underlying5 Tryz.underlying9]
    simp [Conv.bytesToString, Sem.run_pure]
    rfl
  · refine run_convert_bytes_back w _ _ 5 ad cap s Tryz.underlying69 Tryz.underlying5 Tryz.underlying9 fun j hj => hc j _ ?_
    simp [List.getElem?_map, List.getElem?_eq_getElem hj, by8]

set_option maxRecDepth 100000 in
set_option maxHeartbeats 1000000 in
theorem copyB_ok {C : Array Value} {p h g : Nat} {T Tp : TypeId} {fr : Nat × Nat} {v : Value} {bs : List UInt8} (w : World) (hg : w.heap[g]? = some (.cells C T fr)) (hV : View C g v bs)
    (hp : w.heap[p]? = some (.cells #[v] Tp (0, 0))) (hh : w.heap[h]? = some (.cells (List.replicate bs.length (Value.int .u8 0)).toArray 5 (0, 0))) (hpg : g ≠ p) (hph : p ≠ h) (hgh : g ≠ h) :
    Calls Tryz.prog 36 #[.pointer (some ⟨p, 0, none⟩), .slice (some ⟨h, 0, none⟩) bs.length bs.length] w fun e w' => ∃ v2, e = .returned (.bool true) ∧ View C g v2 [] ∧
      w'.heap[p]? = some (.cells #[v2] Tp (0, 0)) ∧ w'.heap[h]? = some (.cells (bs.map by8).toArray 5 (0, 0)) ∧ Fs [p, h] w w' := by
  have hr : rd ((bs.length : Nat) : Int).toNat bs = some (bs, []) := by rw [Int.toNat_natCast]; simp [rd]
  have HR := Lib.hid hr
  have HV := Lib.hid hV
  have HG := Lib.hid hg
  have HP := Lib.hid hp
  have HH := Lib.hid hh
  have c0 := cell_head hp
  have cz : w.frozen? ⟨p, 0, none⟩ = false := frozen_of_heap hp
  obtain ⟨n, hn⟩ : ∃ n, n = bs.length := ⟨_, rfl⟩
  have HN := Lib.hid hn
  rw [← hn] at HR ⊢
  clear hr hV hg hp hh hn
  go_enter Tryz.func36, Tryz.ntmps36
  go_wp2_with fail
  refine (read_yes ⟨p, 0, none⟩ n w (by omega) HR.out HV.out c0 cz).mono ?_
  rintro e w1 ⟨v1, v2, rfl, hv1, hv2, rfl⟩
  obtain ⟨off, cap, rfl, hcl, hcm, hcc⟩ := hv1
  rw [← HN.out] at hcl hcc ⊢
  have hcopy := run_copy_row (P := Tryz.prog) (w.setCell ⟨p, 0, none⟩ v2) 22 22 3 5 h 0 n n ⟨g, off, none⟩ n cap (List.replicate bs.length (Value.int .u8 0)).toArray 5 (bs.map by8) Tryz.underlying22 infoSize8 (heap_past HH.out hph) (by rw [List.length_map, ← HN.out]; exact (Nat.min_self n).symm)
    (fun j u hu => by
      have hj : j < bs.length := by have := (List.getElem?_eq_some_iff.1 hu).1; simpa using this
      rw [add_plain, cell_of_heap (heap_past HG.out (fun e => hpg e.symm)), hcc j (by rw [HN.out]; exact hj)]
      rw [List.getElem?_map, List.getElem?_eq_getElem hj] at hu
      simp only [Option.map_some, Option.some.injEq] at hu
      rw [← hu]
      simp [hj])
    (by simp) (fun u hu => by
      obtain ⟨b, _, rfl⟩ := List.mem_map.1 hu
      rfl)
  have hc2 : (List.replicate bs.length (Value.int .u8 0)).toArray.toList.take 0 ++ bs.map by8 ++ (List.replicate bs.length (Value.int .u8 0)).toArray.toList.drop (0 + (bs.map by8).length) = bs.map by8 := by simp
  rw [hc2, List.length_map, ← HN.out] at hcopy
  have HV2 := Lib.hid hv2
  clear hcc hv2 hc2
  go_wp2_with fail
  go_ret
  refine ⟨v2, rfl, HV2.out, ?_, ?_, ?_⟩
  · rw [setRow_other _ _ _ _ hph]
    exact (heap_set_same HP.out).trans rfl
  · exact setRow_heap _ _ _ _ _ _ (heap_past HH.out hph)
  · refine ((Fs.refl _ w).set p 0 _ (by simp)).trans ⟨rfl, rfl, rfl, by rw [size_setRow]; exact Nat.le_refl _, fun k _ hn => ?_⟩
    exact setRow_other _ _ _ _ (fun e => hn (by simp [e]))

end Go.Proofs.YtopcljikkdlffaaGreat
namespace Go.Proofs.YtopcljikkdlffaaGreat
open Go.RowKit

set_option maxRecDepth 100000 in
theorem arr500 (s : Array Value) (h : s.size = 500) : ∃ z : Nat → Value, s = #[z 0, z 1, z 2, z 3, z 4, z 5, z 6, z 7, z 8, z 9, z 10, z 11, z 12, z 13, z 14, z 15, z 16, z 17, z 18, z 19, z 20, z 21, z 22, z 23, z 24, z 25, z 26, z 27, z 28, z 29, z 30, z 31, z 32, z 33, z 34, z 35, z 36, z 37, z 38, z 39, z 40, z 41, z 42, z 43, z 44, z 45, z 46, z 47, z 48, z 49, z 50, z 51, z 52, z 53, z 54, z 55, z 56, z 57, z 58, z 59, z 60, z 61, z 62, z 63, z 64, z 65, z 66, z 67, z 68, z 69, z 70, z 71, z 72, z 73, z 74, z 75, z 76, z 77, z 78, z 79, z 80, z 81, z 82, z 83, z 84, z 85, z 86, z 87, z 88, z 89, z 90, z 91, z 92, z 93, z 94, z 95, z 96, z 97, z 98, z 99, z 100, z 101, z 102, z 103, z 104, z 105, z 106, z 107, z 108, z 109, z 110, z 111, z 112, z 113, z 114, z 115, z 116, z 117, z 118, z 119, z 120, z 121, z 122, z 123, z 124, z 125, z 126, z 127, z 128, z 129, z 130, z 131, z 132, z 133, z 134, z 135, z 136, z 137, z 138, z 139, z 140, z 141, z 142, z 143, z 144, z 145, z 146, z 147, z 148, z 149, z 150, z 151, z 152, z 153, z 154, z 155, z 156, z 157, z 158, z 159, z 160, z 161, z 162, z 163, z 164, z 165, z 166, z 167, z 168, z 169, z 170, z 171, z 172, z 173, z 174, z 175, z 176, z 177, z 178, z 179, z 180, z 181, z 182, z 183, z 184, z 185, z 186, z 187, z 188, z 189, z 190, z 191, z 192, z 193, z 194, z 195, z 196, z 197, z 198, z 199, z 200, z 201, z 202, z 203, z 204, z 205, z 206, z 207, z 208, z 209, z 210, z 211, z 212, z 213, z 214, z 215, z 216, z 217, z 218, z 219, z 220, z 221, z 222, z 223, z 224, z 225, z 226, z 227, z 228, z 229, z 230, z 231, z 232, z 233, z 234, z 235, z 236, z 237, z 238, z 239, z 240, z 241, z 242, z 243, z 244, z 245, z 246, z 247, z 248, z 249, z 250, z 251, z 252, z 253, z 254, z 255, z 256, z 257, z 258, z 259, z 260, z 261, z 262, z 263, z 264, z 265, z 266, z 267, z 268, z 269, z 270, z 271, z 272, z 273, z 274, z 275, z 276, z 277, z 278, z 279, z 280, z 281, z 282, z 283, z 284, z 285, z 286, z 287, z 288, z 289, z 290, z 291, z 292, z 293, z 294, z 295, z 296, z 297, z 298, z 299, z 300, z 301, z 302, z 303, z 304, z 305, z 306, z 307, z 308, z 309, z 310, z 311, z 312, z 313, z 314, z 315, z 316, z 317, z 318, z 319, z 320, z 321, z 322, z 323, z 324, z 325, z 326, z 327, z 328, z 329, z 330, z 331, z 332, z 333, z 334, z 335, z 336, z 337, z 338, z 339, z 340, z 341, z 342, z 343, z 344, z 345, z 346, z 347, z 348, z 349, z 350, z 351, z 352, z 353, z 354, z 355, z 356, z 357, z 358, z 359, z 360, z 361, z 362, z 363, z 364, z 365, z 366, z 367, z 368, z 369, z 370, z 371, z 372, z 373, z 374, z 375, z 376, z 377, z 378, z 379, z 380, z 381, z 382, z 383, z 384, z 385, z 386, z 387, z 388, z 389, z 390, z 391, z 392, z 393, z 394, z 395, z 396, z 397, z 398, z 399, z 400, z 401, z 402, z 403, z 404, z 405, z 406, z 407, z 408, z 409, z 410, z 411, z 412, z 413, z 414, z 415, z 416, z 417, z 418, z 419, z 420, z 421, z 422, z 423, z 424, z 425, z 426, z 427, z 428, z 429, z 430, z 431, z 432, z 433, z 434, z 435, z 436, z 437, z 438, z 439, z 440, z 441, z 442, z 443, z 444, z 445, z 446, z 447, z 448, z 449, z 450, z 451, z 452, z 453, z 454, z 455, z 456, z 457, z 458, z 459, z 460, z 461, z 462, z 463, z 464, z 465, z 466, z 467, z 468, z 469, z 470, z 471, z 472, z 473, z 474, z 475, z 476, z 477, z 478, z 479, z 480, z 481, z 482, z 483, z 484, z 485, z 486, z 487, z 488, z 489, z 490, z 491, z 492, z 493, z 494, z 495, z 496, z 497, z 498, z 499] := by
  obtain ⟨z, hz⟩ := arr_of 500 s h
  exact ⟨z, hz⟩

theorem Tryz.info23b : (Tryz.prog.info? 23).map (fun i => (i.zero, i.size, i.bytes)) = some (some (.int .u16 0), 1, 2) := by kernel_rfl
theorem Tryz.info9b : (Tryz.prog.info? 9).map (fun i => (i.zero, i.size, i.bytes)) = some (some (.string ⟨#[]⟩), 1, 16) := by kernel_rfl
theorem Tryz.info56b : (Tryz.prog.info? 56).map (fun i => (i.zero, i.size, i.bytes)) = some (some (.agg #[.int .u16 0, .slice none 0 0]), 2, 32) := by kernel_rfl
theorem Tryz.info59b : (Tryz.prog.info? 59).map (fun i => (i.zero, i.size, i.bytes)) = some (some (.agg #[.slice none 0 0, .int .u32 0]), 2, 32) := by kernel_rfl
theorem Tryz.info22c : (Tryz.prog.info? 22).map (fun i => (i.zero, i.size, i.bytes)) = some (some (.slice none 0 0), 1, 24) := by kernel_rfl

/-- Numbers; texts; key shares; pre-shared keys; QUIC parameters. -/
def ShowU (L : List Nat) (_ : Value) (us : List Value) : Prop := us = L.map fun n => Value.int .u16 (n : Nat)
def ShowT (L : List (List UInt8)) (_ : Value) (us : List Value) : Prop := us = L.map fun s => Value.string ⟨s.toArray⟩
def ShowK (C : Array Value) (g : Nat) (L : List (Nat × List UInt8)) (_ : Value) (us : List Value) : Prop :=
  ∀ (j : Nat) (x : Nat × List UInt8), L[j]? = some x → us[2 * j]? = some (.int .u16 (x.1 : Nat)) ∧ ∃ u, us[2 * j + 1]? = some u ∧ VN C g u x.2
def ShowP (C : Array Value) (g : Nat) (L : List (List UInt8 × Nat)) (_ : Value) (us : List Value) : Prop :=
  ∀ (j : Nat) (x : List UInt8 × Nat), L[j]? = some x → (∃ u, us[2 * j]? = some u ∧ VN C g u x.1) ∧ us[2 * j + 1]? = some (.int .u32 (x.2 : Nat))
def ShowQ (q : Option (List UInt8)) (v : Value) (us : List Value) : Prop := us = (q.getD []).map by8 ∧ ∃ a n c, v = .slice a n c ∧ a.isSome = q.isSome

theorem ShowU.snoc {L : List Nat} {v v' : Value} {us : List Value} {n : Nat} (h : ShowU L v us) : ShowU (L ++ [n]) v' (us ++ [.int .u16 (n : Nat)]) := by
  unfold ShowU at *; rw [h]; simp
theorem ShowT.snoc {L : List (List UInt8)} {v v' : Value} {us : List Value} {s : List UInt8} (h : ShowT L v us) : ShowT (L ++ [s]) v' (us ++ [.string ⟨s.toArray⟩]) := by
  unfold ShowT at *; rw [h]; simp
theorem pair_at {us : List Value} {a b : Value} {n j : Nat} (hl : us.length = n * 2) (hj : j < n + 1) : (j < n → (us ++ [a, b])[2 * j]? = us[2 * j]? ∧ (us ++ [a, b])[2 * j + 1]? = us[2 * j + 1]?) ∧ (j = n → (us ++ [a, b])[2 * j]? = some a ∧ (us ++ [a, b])[2 * j + 1]? = some b) := by
  refine ⟨fun h => ⟨List.getElem?_append_left (by omega), List.getElem?_append_left (by omega)⟩, fun h => ⟨?_, ?_⟩⟩
  · rw [List.getElem?_append_right (by omega), show 2 * j - us.length = 0 by omega]; rfl
  · rw [List.getElem?_append_right (by omega), show 2 * j + 1 - us.length = 1 by omega]; rfl
theorem ShowK.snoc {C : Array Value} {g : Nat} {L : List (Nat × List UInt8)} {v v' u : Value} {us : List Value} {n : Nat} {s : List UInt8} (h : ShowK C g L v us) (hl : us.length = L.length * 2) (hu : VN C g u s) : ShowK C g (L ++ [(n, s)]) v' (us ++ [.int .u16 (n : Nat), u]) := by
  intro j x hj
  have hjl : j < L.length + 1 := by have := (List.getElem?_eq_some_iff.1 hj).1; simpa using this
  obtain ⟨p1, p2⟩ := pair_at (a := .int .u16 (n : Nat)) (b := u) hl hjl
  rcases Nat.lt_or_ge j L.length with hlt | hge
  · rw [List.getElem?_append_left hlt] at hj
    rw [(p1 hlt).1, (p1 hlt).2]
    exact h j x hj
  · have e : j = L.length := by omega
    rw [(p2 e).1, (p2 e).2]
    rw [List.getElem?_append_right hge, show j - L.length = 0 by omega] at hj
    cases hj
    exact ⟨rfl, u, rfl, hu⟩
theorem ShowP.snoc {C : Array Value} {g : Nat} {L : List (List UInt8 × Nat)} {v v' u : Value} {us : List Value} {n : Nat} {s : List UInt8} (h : ShowP C g L v us) (hl : us.length = L.length * 2) (hu : VN C g u s) : ShowP C g (L ++ [(s, n)]) v' (us ++ [u, .int .u32 (n : Nat)]) := by
  intro j x hj
  have hjl : j < L.length + 1 := by have := (List.getElem?_eq_some_iff.1 hj).1; simpa using this
  obtain ⟨p1, p2⟩ := pair_at (a := u) (b := .int .u32 (n : Nat)) hl hjl
  rcases Nat.lt_or_ge j L.length with hlt | hge
  · rw [List.getElem?_append_left hlt] at hj
    rw [(p1 hlt).1, (p1 hlt).2]
    exact h j x hj
  · have e : j = L.length := by omega
    rw [(p2 e).1, (p2 e).2]
    rw [List.getElem?_append_right hge, show j - L.length = 0 by omega] at hj
    cases hj
    exact ⟨⟨u, rfl, hu⟩, rfl⟩

/-- The cells of a clientHelloMsg. -/
def chF (C : Array Value) (g : Nat) (f : CH) : List FD := [.any, .val (.int .u16 (f.vers : Nat)), .vn f.random, .vn f.session, .own 23 1 f.suites.length (ShowU f.suites), .vn f.comps,
  .val (.string ⟨f.name.toArray⟩), .val (.bool f.ocsp), .own 23 1 f.curves.length (ShowU f.curves), .vn f.points, .val (.bool f.ticket), .vn f.tickets,
  .own 23 1 f.sigs.length (ShowU f.sigs), .own 23 1 f.sigsC.length (ShowU f.sigsC), .val (.bool f.srs), .vn f.sr, .val (.bool f.ems), .own 9 1 f.alpn.length (ShowT f.alpn), .val (.bool f.scts),
  .own 23 1 f.vers13.length (ShowU f.vers13), .vn f.cookie, .own 56 2 f.shares.length (ShowK C g f.shares), .val (.bool f.early), .vn f.modes, .own 59 2 f.psks.length (ShowP C g f.psks),
  .own 22 1 f.binders.length (ShowL C g f.binders), .own 5 1 (f.quic.getD []).length (ShowQ f.quic), .vn f.ech, .own 23 1 f.exts.length (ShowU f.exts)]

noncomputable def chSwitch : Code := ((Tryz.f18.body.bind (pblk 4)).getD .skip)
noncomputable def chExtBody : Code := (((Tryz.f18.body.bind (pblk 2)).bind ploop).getD .skip)

/-- What later code reads of the frame. -/
def ChFrame (s : Array Value) (m eB mb : Nat) : Prop := s.size = 500 ∧ s[0]? = some (.pointer (some ⟨m, 0, none⟩)) ∧ s[8]? = some (.pointer (some ⟨eB, 0, none⟩)) ∧ s[9]? = some (.map (some mb))

/-- What the switch leaves of one extension. -/
def ChSw (w0 : World) (C : Array Value) (g m eB dB mb : Nat) (seen : List Nat) (Bs : CH → List (Nat × List FD)) (f : CH) (ty : Nat) (d rest : List UInt8) (e : Exit) (a : Act) (w' : World) : Prop :=
  a.defers = [] ∧ a.tmps.size = 500 ∧
    ((e = .ret ∧ chExt f ty d rest = none ∧ a.tmps[4]? = some (.bool false) ∧ Fs [m] w0 w') ∨
     ∃ f' r, chExt f ty d rest = some (f', r) ∧ ChFrame a.tmps m eB mb ∧
      ((e = .exit 3 ∧ r = [] ∧ Bn w0 C g m (Bs f') (some (mb, seen)) w') ∨ (e = .normal ∧ a.tmps[11]? = some (.pointer (some ⟨dB, 0, none⟩)) ∧ Bn w0 C g m (Bs f' ++ [(dB, [.vw r])]) (some (mb, seen)) w')))

theorem ChSw_panic {w0 : World} {C : Array Value} {g m eB dB mb : Nat} {seen : List Nat} {Bs : CH → List (Nat × List FD)} {f : CH} {ty : Nat} {d rest : List UInt8} {c : List PanicEntry} {a : Act} {w' : World} (h : ChSw w0 C g m eB dB mb seen Bs f ty d rest (.panic c) a w') : False := by
  obtain ⟨_, _, ⟨h, _⟩ | ⟨_, _, _, _, ⟨h, _⟩ | ⟨h, _⟩⟩⟩ := h <;> cases h

/-- The blocks around one extension. -/
def chBs (C : Array Value) (g m eB tB : Nat) (ex : List UInt8) (ty : Nat) (f : CH) : List (Nat × List FD) :=
  [(m, chF C g f), (eB, [.vw ex]), (tB, [.val (.int .u16 (ty : Nat))])]

end Go.Proofs.YtopcljikkdlffaaGreat
namespace Go.Proofs.YtopcljikkdlffaaGreat
open Go.RowKit

end Go.Proofs.YtopcljikkdlffaaGreat
namespace Go.Proofs.YtopcljikkdlffaaGreat
open Go.RowKit

end Go.Proofs.YtopcljikkdlffaaGreat
namespace Go.Proofs.YtopcljikkdlffaaGreat
open Go.RowKit

/-- The row v shows is apart from all that the bundle shows. -/
def Held (base : Nat) (Bs : List (Nat × List FD)) (Ms : Option (Nat × List Nat)) (e : TypeId) (size n : Nat) (v : Value) (us : List Value) (w : World) : Prop :=
  w.ownsRow base e size v n us ∧ ∀ k, v.ownBlock = some k → (∀ (c q : Nat) (G : List FD), Bs[c]? = some (q, G) → q ≠ k) ∧
    (∀ (c q : Nat) (G : List FD) (j : Nat) (fd : FD) (v2 : Value), Bs[c]? = some (q, G) → G[j]? = some fd → fd.isOwn = true → w.cell? ⟨q, j, none⟩ = some v2 → v2.ownBlock ≠ some k) ∧ ∀ b seen, Ms = some (b, seen) → b ≠ k

def ownList (v : Value) : List Nat := match v.ownBlock with
  | some k => [k]
  | none => []

section
variable {w0 w w' : World} {C : Array Value} {g m : Nat} {Bs : List (Nat × List FD)} {Ms : Option (Nat × List Nat)}

theorem any_up {b p i : Nat} {F : List FD} {fo : FD} (hb : Bs[b]? = some (p, F)) {c q : Nat} {G : List FD} (hc : (Bs.set b (p, F.set i FD.any))[c]? = some (q, G)) :
    ∃ G', Bs[c]? = some (q, G') ∧ ∀ (j : Nat) (fd : FD), G[j]? = some fd → fd.isOwn = true → G'[j]? = some fd ∧ (c ≠ b ∨ j ≠ i) := by
  rcases set_pair hb hc with ⟨rfl, rfl, rfl⟩ | ⟨hne, hc'⟩
  · refine ⟨F, hb, fun j fd hj ho => ?_⟩
    rcases set_field hj with ⟨rfl, rfl⟩ | ⟨hne, hj'⟩
    · cases ho
    · exact ⟨hj', .inr hne⟩
  · exact ⟨G, hc', fun j fd hj _ => ⟨hj, .inl hne⟩⟩

theorem Held.push {base size n : Nat} {e : TypeId} {v : Value} {us : List Value} (h : Bn w0 C g m Bs Ms w) (hh : Held base Bs Ms e size n v us w) (o : Obj) : Held base Bs Ms e size n v us (w.alloc o) := by
  refine ⟨own_kept hh.1 fun k hk => Below.heap_alloc _ _ _ (hh.1.lt k hk).2, fun k hk => ?_⟩
  obtain ⟨h1, h2, h3⟩ := hh.2 k hk
  refine ⟨h1, fun c q G j fd v2 hc hj ho hv => h2 c q G j fd v2 hc hj ho ?_, h3⟩
  rw [← hv]
  exact (World.cell?_of_block (Below.heap_alloc w _ q (h.lt hc))).symm

/-- An append to a row in a cell; it is not stored. -/
theorem Bn.app (h : Bn w0 C g m Bs Ms w) {b p i e size n : Nat} {R : Value → List Value → Prop} {F : List FD} (hb : Bs[b]? = some (p, F)) (hi : F[i]? = some (.own e size n R)) (t ty : TypeId) (ti : TypeInfo) (z : Value) (bytes : Nat)
    (ht : Tryz.prog.underlying t = some (.slice e)) (hti : Tryz.prog.info? e = some ti) (hz : ti.zero = some z) (hsize : ti.size = size) (hby : ti.bytes = bytes) (hzs : z.cells.size = size) (hsz : 0 < size)
    (a : Addr) (mm c : Nat) (news : List Value) (hl : news.length = mm * size) (hnews : ∀ j u, news[j]? = some u → w.cell? (a.add j) = some u) (h1 : ∀ u ∈ news, u.oneCell' = true)
    (h63 : n + mm ≤ maxLen) (hbytes : (n + mm) * bytes ≤ 140737488355328) :
    ∃ v us v' w', w.cell? ⟨p, i, none⟩ = some v ∧ (∃ ao cap, v = .slice ao n cap) ∧ (R v us ∧ us.length = n * size) ∧ (Builtin.append_ #[t, t] ty #[v, .slice (some a) mm c]).run Tryz.prog w = .ok v' w' ∧
      (∃ ao cap, v' = .slice ao (n + mm) cap) ∧ Bn w0 C g m (Bs.set b (p, F.set i .any)) Ms w' ∧ Held w0.heap.size (Bs.set b (p, F.set i .any)) Ms e size (n + mm) v' (us ++ news) w' ∧
      (∀ (c q : Nat) (G : List FD) (j : Nat), Bs[c]? = some (q, G) → w'.cell? ⟨q, j, none⟩ = w.cell? ⟨q, j, none⟩) ∧ Fs (ownList v) w w' ∧ (∀ k, v'.ownBlock = some k → v.ownBlock = some k ∨ w.heap.size ≤ k) ∧ (∀ k ∈ ownList v, k < w.heap.size) := by
  obtain ⟨v, us, hv, hown, hR⟩ := h.own hb hi
  obtain ⟨v', w', hr, hown', hg, hsharp⟩ := append_sharp (P := Tryz.prog) w w0.heap.size t ty e ti z size bytes ht hti hz hsize hby hzs hsz v n us hown a mm c news hl hnews h1 h63 hbytes h.fs.size
  have hil : i < F.length := (List.getElem?_eq_some_iff.1 hi).1
  have hbl : b < Bs.length := (List.getElem?_eq_some_iff.1 hb).1
  have hw := h.weak hb hi .any (fun _ _ => trivial) (fun e => by cases e)
  have hF : Fs (ownList v) w w' := ⟨hg.os, hg.tape, hg.output, hg.size, fun k hk hn => hg.block k hk fun e => hn (by unfold ownList; rw [← e]; simp)⟩
  have hol : ∀ k, k ∈ ownList v → v.ownBlock = some k := by
    intro k hk
    unfold ownList at hk
    cases hob : v.ownBlock with
    | none => rw [hob] at hk; cases hk
    | some k0 =>
      rw [hob] at hk
      simp only [List.mem_singleton] at hk
      rw [hk]
  have h3 : Bn w0 C g m (Bs.set b (p, F.set i FD.any)) Ms w' := by
    refine hw.other hF fun k hk => ?_
    have hob := hol k hk
    refine ⟨(hown.lt k hob).1, fun c q G hc => ?_, fun c q G j fd v2 hc hj ho hv2 e => ?_, fun mb seen e e2 => ?_⟩
    · obtain ⟨G', hc', _⟩ := any_up (fo := FD.any) hb hc
      exact h.off b p F i _ v k hb hi rfl hv hob c q G' hc'
    · obtain ⟨G', hc', hx⟩ := any_up (fo := FD.any) hb hc
      obtain ⟨hj', hne⟩ := hx j fd hj ho
      obtain ⟨e1, e3⟩ := h.apart b p F i _ v c q G' j fd v2 k hb hi rfl hv hc' hj' ho hv2 hob e
      rcases hne with hne | hne
      · exact hne e1.symm
      · exact hne e3.symm
    · subst e2
      obtain ⟨es, kk, hmm⟩ := (h.maps mb seen e).1.map
      rcases hown.2 with ⟨rfl, _⟩ | ⟨g', cap, cur, rfl, _, hh, _⟩
      · cases hob
      · simp only [Value.ownBlock, Option.some.injEq] at hob
        subst hob
        rw [hmm] at hh
        cases hh
  have hcell : ∀ {c q : Nat} {G : List FD} (j : Nat), Bs[c]? = some (q, G) → w'.cell? ⟨q, j, none⟩ = w.cell? ⟨q, j, none⟩ := fun {c q G} j hc =>
    World.cell?_of_block (hg.block q (h.lt hc) fun e => h.off b p F i _ v q hb hi rfl hv e.symm c q G hc rfl)
  refine ⟨v, us, v', w', hv, row_slice hown, ⟨hR, hown.1⟩, hr, row_slice hown', h3, ⟨hown', fun k hk => ?_⟩, fun c q G j hc => hcell j hc, hF, hsharp, fun k hk => (hown.lt k (hol k hk)).2⟩
  rcases hsharp k hk with hold | hnew
  · refine ⟨fun c q G hc => ?_, fun c q G j fd v2 hc hj ho hv2 e => ?_, fun mb seen e e2 => ?_⟩
    · obtain ⟨G', hc', _⟩ := any_up (fo := FD.any) hb hc
      exact h.off b p F i _ v k hb hi rfl hv hold c q G' hc'
    · obtain ⟨G', hc', hx⟩ := any_up (fo := FD.any) hb hc
      obtain ⟨hj', hne⟩ := hx j fd hj ho
      rw [hcell j hc'] at hv2
      obtain ⟨e1, e3⟩ := h.apart b p F i _ v c q G' j fd v2 k hb hi rfl hv hc' hj' ho hv2 hold e
      rcases hne with hne | hne
      · exact hne e1.symm
      · exact hne e3.symm
    · subst e2
      obtain ⟨es, kk, hmm⟩ := (h.maps mb seen e).1.map
      rcases hown.2 with ⟨rfl, _⟩ | ⟨g', cap, cur, rfl, _, hh, _⟩
      · cases hold
      · simp only [Value.ownBlock, Option.some.injEq] at hold
        subst hold
        rw [hmm] at hh
        cases hh
  · refine ⟨fun c q G hc e => ?_, fun c q G j fd v2 hc hj ho hv2 e => ?_, fun mb seen e e2 => ?_⟩
    · obtain ⟨G', hc', _⟩ := any_up (fo := FD.any) hb hc
      have := h.lt hc'
      omega
    · obtain ⟨G', hc', hx⟩ := any_up (fo := FD.any) hb hc
      obtain ⟨hj', hne⟩ := hx j fd hj ho
      rw [hcell j hc'] at hv2
      obtain ⟨u, hu, hru⟩ := h.rel c q G' j fd hc' hj'
      rw [hv2] at hu
      cases hu
      have := (hru.lt ho k e).2
      omega
    · obtain ⟨es, kk, hmm⟩ := (h.maps mb seen e).1.map
      have := (Array.getElem?_eq_some_iff.1 hmm).1
      omega

/-- A row that is held outlives an append to a row of the bundle. -/
theorem Held.app {base size n : Nat} {e : TypeId} {v v2 : Value} {us : List Value} (h : Bn w0 C g m Bs Ms w) (hh : Held base Bs Ms e size n v us w) {b p i : Nat} {F : List FD} {fo : FD} (hb : Bs[b]? = some (p, F)) (hi : F[i]? = some fo) (ho : fo.isOwn = true) (hv2 : w.cell? ⟨p, i, none⟩ = some v2) (hf : Fs (ownList v2) w w')
    (hcell : ∀ (c q : Nat) (G : List FD) (j : Nat), Bs[c]? = some (q, G) → w'.cell? ⟨q, j, none⟩ = w.cell? ⟨q, j, none⟩) : Held base (Bs.set b (p, F.set i .any)) Ms e size n v us w' := by
  refine ⟨own_kept hh.1 fun k hk => hf.keep k (hh.1.lt k hk).2 fun hm => ?_, fun k hk => ?_⟩
  · have h2 := (hh.2 k hk).2.1 b p F i fo v2 hb hi ho hv2
    unfold ownList at hm
    cases hob : v2.ownBlock with
    | none => rw [hob] at hm; cases hm
    | some k0 =>
      rw [hob] at hm h2
      simp only [List.mem_singleton] at hm
      exact h2 (by rw [hm])
  · obtain ⟨h1, h2, h3⟩ := hh.2 k hk
    refine ⟨fun c q G hc => ?_, fun c q G j fd v3 hc hj ho' hv3 => ?_, h3⟩
    · obtain ⟨G', hc', _⟩ := any_up (fo := FD.any) hb hc
      exact h1 c q G' hc'
    · obtain ⟨G', hc', hx⟩ := any_up (fo := FD.any) hb hc
      rw [hcell c q G' j hc'] at hv3
      exact h2 c q G' j fd v3 hc' (hx j fd hj ho').1 ho' hv3

/-- A row that is held is stored. -/
theorem Bn.put (h : Bn w0 C g m Bs Ms w) {b p i e size n : Nat} {F : List FD} {fo : FD} {v : Value} {us : List Value} (hb : Bs[b]? = some (p, F)) (hi : F[i]? = some fo) (hh : Held w0.heap.size Bs Ms e size n v us w) (R : Value → List Value → Prop) (hR : R v us) :
    Bn w0 C g m (Bs.set b (p, F.set i (.own e size n R))) Ms (w.setCell ⟨p, i, none⟩ v) :=
  h.store hb hi (.own e size n R) v ⟨us, hh.1, hR⟩ fun _ k hk => ⟨(hh.2 k hk).1, fun c q G j fd' v' hc hj ho' hv' e => absurd e ((hh.2 k hk).2.1 c q G j fd' v' hc hj ho' hv')⟩

theorem Held.put {size n size2 n2 : Nat} {e e2 : TypeId} {v v2 : Value} {us2 : List Value} (h : Bn w0 C g m Bs Ms w) {b p i : Nat} {F : List FD} {fo : FD} (hb : Bs[b]? = some (p, F)) (hi : F[i]? = some fo) (hh : Held w0.heap.size Bs Ms e2 size2 n2 v2 us2 w) (R : Value → List Value → Prop)
    (hne : ∀ k, v.ownBlock = some k → v2.ownBlock ≠ some k) : Held w0.heap.size (Bs.set b (p, F.set i (.own e size n R))) Ms e2 size2 n2 v2 us2 (w.setCell ⟨p, i, none⟩ v) := by
  have hpk : ∀ k, v2.ownBlock = some k → k ≠ p := fun k hk e => (hh.2 k hk).1 b p F hb e.symm
  refine ⟨own_kept hh.1 fun k hk => Below.heap_setCell w _ _ k (hpk k hk), fun k hk => ?_⟩
  obtain ⟨h1, h2, h3⟩ := hh.2 k hk
  refine ⟨fun c q G hc => ?_, fun c q G j fd v3 hc hj ho' hv3 => ?_, h3⟩
  · rcases set_pair hb hc with ⟨rfl, rfl, rfl⟩ | ⟨_, hc'⟩
    · exact h1 _ _ F hb
    · exact h1 c q G hc'
  · rcases set_pair hb hc with ⟨rfl, rfl, rfl⟩ | ⟨hne', hc'⟩
    · rcases set_field hj with ⟨rfl, rfl⟩ | ⟨hne2, hj'⟩
      · obtain ⟨u, hu, _⟩ := h.rel _ _ F j fo hb hi
        rw [cell_same hu] at hv3
        cases hv3
        intro hx
        exact hne k hx hk
      · rw [cell_other_off (.inr (fun e => hne2 e.symm))] at hv3
        exact h2 _ _ F j fd v3 hb hj' ho' hv3
    · have hpq : p ≠ q := fun e => hne' (h.nodup c b q G F hc' (e ▸ hb))
      rw [cell_other_off (.inl hpq)] at hv3
      exact h2 c q G j fd v3 hc' hj ho' hv3

/-- The second of two appends in one statement, and both stores. -/
theorem Bn.second (h : Bn w0 C g m Bs Ms w) {b p i1 i e1 size1 n1 e size n : Nat} {R : Value → List Value → Prop} {F : List FD} {v1 : Value} {us1 : List Value} (hb : Bs[b]? = some (p, F)) (hi1 : F[i1]? = some .any) (hi : F[i]? = some (.own e size n R)) (hh : Held w0.heap.size Bs Ms e1 size1 n1 v1 us1 w)
    (t ty : TypeId) (ti : TypeInfo) (z : Value) (bytes : Nat)
    (ht : Tryz.prog.underlying t = some (.slice e)) (hti : Tryz.prog.info? e = some ti) (hz : ti.zero = some z) (hsize : ti.size = size) (hby : ti.bytes = bytes) (hzs : z.cells.size = size) (hsz : 0 < size)
    (a : Addr) (mm c : Nat) (news : List Value) (hl : news.length = mm * size) (hnews : ∀ j u, news[j]? = some u → w.cell? (a.add j) = some u) (h1 : ∀ u ∈ news, u.oneCell' = true)
    (h63 : n + mm ≤ maxLen) (hbytes : (n + mm) * bytes ≤ 140737488355328) :
    ∃ v us v' w', w.cell? ⟨p, i, none⟩ = some v ∧ (R v us ∧ us.length = n * size) ∧ (Builtin.append_ #[t, t] ty #[v, .slice (some a) mm c]).run Tryz.prog w = .ok v' w' ∧
      (∃ ao cap, v' = .slice ao (n + mm) cap) ∧ (∀ (c q : Nat) (G : List FD) (j : Nat), Bs[c]? = some (q, G) → w'.cell? ⟨q, j, none⟩ = w.cell? ⟨q, j, none⟩) ∧ (∀ j, w'.frozen? ⟨p, j, none⟩ = false) ∧
      ∀ (R1 R2 : Value → List Value → Prop) (n2 : Nat), n2 = n + mm → R1 v1 us1 → R2 v' (us ++ news) → Bn w0 C g m (Bs.set b (p, (F.set i1 (.own e1 size1 n1 R1)).set i (.own e size n2 R2))) Ms ((w'.setCell ⟨p, i1, none⟩ v1).setCell ⟨p, i, none⟩ v') := by
  obtain ⟨v, us, v', w', hv, _, hR, hrun, hsl, hB, hH, hcell, hF, hsharp, hlt⟩ := h.app hb hi t ty ti z bytes ht hti hz hsize hby hzs hsz a mm c news hl hnews h1 h63 hbytes
  have hbl : b < Bs.length := (List.getElem?_eq_some_iff.1 hb).1
  have hil : i < F.length := (List.getElem?_eq_some_iff.1 hi).1
  have hne : i ≠ i1 := by
    rintro rfl
    rw [hi] at hi1
    cases hi1
  have hb2 : (Bs.set b (p, F.set i FD.any))[b]? = some (p, F.set i FD.any) := by rw [List.getElem?_set_self hbl]
  have hH1 := hh.app h hb hi rfl hv hF hcell
  have hi1' : (F.set i FD.any)[i1]? = some .any := by rw [List.getElem?_set_ne hne]; exact hi1
  refine ⟨v, us, v', w', hv, hR, hrun, hsl, hcell, fun j => hB.frozen hb2 j, fun R1 R2 n2 hn2 hR1 hR2 => ?_⟩
  subst hn2
  have hap : ∀ k, v1.ownBlock = some k → v'.ownBlock ≠ some k := by
    intro k hk e
    rcases hsharp k e with hold | hnew
    · exact (hh.2 k hk).2.1 b p F i _ v hb hi rfl hv hold
    · have := (hh.1.lt k hk).2
      omega
  have hP := hB.put hb2 hi1' hH1 R1 hR1
  have hH2 := hH.put (e := e1) (size := size1) (n := n1) hB hb2 hi1' R1 hap
  have hb3 : ((Bs.set b (p, F.set i FD.any)).set b (p, (F.set i FD.any).set i1 (.own e1 size1 n1 R1)))[b]? = some (p, (F.set i FD.any).set i1 (.own e1 size1 n1 R1)) := by
    rw [List.getElem?_set_self (by simpa using hbl)]
  have hi3 : ((F.set i FD.any).set i1 (.own e1 size1 n1 R1))[i]? = some .any := by
    rw [List.getElem?_set_ne (fun e => hne e.symm), List.getElem?_set_self hil]
  have hP2 := hP.put hb3 hi3 hH2 R2 hR2
  have e : (((F.set i FD.any).set i1 (.own e1 size1 n1 R1)).set i (.own e size (n + mm) R2)) = (F.set i1 (.own e1 size1 n1 R1)).set i (.own e size (n + mm) R2) := by
    rw [List.set_comm _ _ hne, List.set_set]
  rw [e, List.set_set, List.set_set] at hP2
  exact hP2

end
end Go.Proofs.YtopcljikkdlffaaGreat
namespace Go.Proofs.YtopcljikkdlffaaGreat
open Go.RowKit

theorem Tryz.info57b : (Tryz.prog.info? 57).map (fun i => (i.zero, i.size, i.bytes)) = some (some (.int .u32 0), 1, 4) := by kernel_rfl

def ShowU4 (L : List Nat) (_ : Value) (us : List Value) : Prop := us = L.map fun n => Value.int .u32 (n : Nat)
theorem ShowU4.snoc {L : List Nat} {v v' : Value} {us : List Value} {n : Nat} (h : ShowU4 L v us) : ShowU4 (L ++ [n]) v' (us ++ [.int .u32 (n : Nat)]) := by
  unfold ShowU4 at *; rw [h]; simp
/-- Slices of the data. -/
def ShowW (C : Array Value) (g : Nat) (L : List (List UInt8)) (_ : Value) (us : List Value) : Prop := ∀ (j : Nat) (s : List UInt8), L[j]? = some s → ∃ u, us[j]? = some u ∧ VN C g u s
theorem ShowW.snoc {C : Array Value} {g : Nat} {L : List (List UInt8)} {v v' u : Value} {us : List Value} {s : List UInt8} (h : ShowW C g L v us) (hl : us.length = L.length) (hu : VN C g u s) : ShowW C g (L ++ [s]) v' (us ++ [u]) := by
  intro j t hj
  rcases Nat.lt_or_ge j L.length with hlt | hge
  · rw [List.getElem?_append_left hlt] at hj
    rw [List.getElem?_append_left (by omega)]
    exact h j t hj
  · rw [List.getElem?_append_right hge] at hj
    have h0 : j - L.length = 0 := by
      have := (List.getElem?_eq_some_iff.1 hj).1
      simp at this
      omega
    rw [h0] at hj
    simp only [List.getElem?_cons_zero, Option.some.injEq] at hj
    subst hj
    exact ⟨u, by rw [List.getElem?_append_right (by omega), hl, h0]; rfl, hu⟩

/-- The cells of a ClientHello of impl, with what the cell of the random shows. -/
def rV (C : Array Value) (g : Nat) (rnd : FD) (f : CH) : List FD := [.val (.int .u16 (f.vers : Nat)), rnd, .vn f.session, .own 23 1 f.suites.length (ShowU f.suites), .vn f.comps,
  .val (.string ⟨f.name.toArray⟩), .val (.bool f.ocsp), .own 23 1 f.curves.length (ShowU f.curves), .vn f.points, .val (.bool f.ticket), .vn f.tickets,
  .own 23 1 f.sigs.length (ShowU f.sigs), .own 23 1 f.sigsC.length (ShowU f.sigsC), .val (.bool f.srs), .vn f.sr, .val (.bool f.ems), .own 9 1 f.alpn.length (ShowT f.alpn), .val (.bool f.scts),
  .own 23 1 f.vers13.length (ShowU f.vers13), .vn f.cookie, .own 23 1 (f.shares.map (·.1)).length (ShowU (f.shares.map (·.1))), .own 22 1 (f.shares.map (·.2)).length (ShowW C g (f.shares.map (·.2))), .val (.bool f.early), .vn f.modes,
  .own 22 1 (f.psks.map (·.1)).length (ShowW C g (f.psks.map (·.1))), .own 57 1 (f.psks.map (·.2)).length (ShowU4 (f.psks.map (·.2))), .own 22 1 f.binders.length (ShowW C g f.binders),
  .val (.bool f.quic.isSome), .vn (f.quic.getD []), .vn f.ech, .own 23 1 f.exts.length (ShowU f.exts)]

section
variable {w0 w w' : World} {C : Array Value} {g m : Nat} {F : List FD}

end

end Go.Proofs.YtopcljikkdlffaaGreat
namespace Go.Proofs.YtopcljikkdlffaaGreat
open Go.RowKit

/-- A row of values, below base. -/
def RowS (w : World) (base : Nat) (e : TypeId) (v : Value) (us : List Value) : Prop :=
  (v = .slice none 0 0 ∧ us = []) ∨ ∃ p cap cur, v = .slice (some ⟨p, 0, none⟩) us.length cap ∧ p < base ∧ w.heap[p]? = some (.cells cur e (0, 0)) ∧ ∀ (j : Nat) (u : Value), us[j]? = some u → cur[j]? = some u

theorem RowS.keep {w w' : World} {base base' : Nat} {e : TypeId} {v : Value} {us : List Value} (h : RowS w base e v us) (hb : base ≤ base') (hk : ∀ k, k < base → w'.heap[k]? = w.heap[k]?) : RowS w' base' e v us := by
  rcases h with h | ⟨p, cap, cur, ev, hlt, hh, hc⟩
  · exact .inl h
  · exact .inr ⟨p, cap, cur, ev, by omega, (hk p hlt).trans hh, hc⟩

theorem RowS.len {w : World} {base : Nat} {e : TypeId} {v : Value} {us : List Value} (h : RowS w base e v us) : ∃ ad cap, v = .slice ad us.length cap ∧ (0 < us.length → ∃ x, ad = some ⟨x, 0, none⟩) := by
  rcases h with ⟨rfl, rfl⟩ | ⟨p, cap, cur, rfl, _⟩
  · exact ⟨none, 0, rfl, fun h => by simp at h⟩
  · exact ⟨_, cap, rfl, fun _ => ⟨_, rfl⟩⟩

theorem RowS.at {w : World} {base len cap x : Nat} {e : TypeId} {us : List Value} (h : RowS w base e (.slice (some ⟨x, 0, none⟩) len cap) us) {j : Nat} {u : Value} (hj : us[j]? = some u) : w.cell? ⟨x, j, none⟩ = some u := by
  rcases h with ⟨h, _⟩ | ⟨p, cap, cur, ev, _, hh, hc⟩
  · cases h
  · simp only [Value.slice.injEq, Option.some.injEq, Addr.mk.injEq, and_true] at ev
    obtain ⟨rfl, _, _⟩ := ev
    rw [cell_of_heap hh]
    exact hc j u hj

theorem rowS_of {w : World} {base B n : Nat} {e : TypeId} {v : Value} {us : List Value} (h : w.ownsRow base e 1 v n us) (hB : w.heap.size ≤ B) : RowS w B e v us := by
  have hn : n = us.length := by have := h.1; omega
  subst hn
  rcases h.2 with ⟨rfl, h0⟩ | ⟨p, cap, cur, rfl, hbp, hh, hnc, _, hcs, htake⟩
  · exact .inl ⟨rfl, List.length_eq_zero_iff.1 h0⟩
  · refine .inr ⟨p, cap, cur, rfl, by have := lt_of_heap hh; omega, hh, fun j u hj => ?_⟩
    rw [Nat.mul_one] at htake
    rw [← htake, List.getElem?_take] at hj
    split at hj
    · rw [← Array.getElem?_toList]; exact hj
    · cases hj

/-- Numbers of k bytes, one behind the other. -/
def wnums (k : Nat) (L : List Nat) : List UInt8 := L.flatMap (en k)
theorem wnums_snoc {k : Nat} {L : List Nat} {n : Nat} : wnums k (L ++ [n]) = wnums k L ++ en k n := by simp [wnums]
theorem wnums_len {k : Nat} : ∀ {L : List Nat}, (wnums k L).length = L.length * k
  | [] => by simp [wnums]
  | a :: L => by
    have h := wnums_len (k := k) (L := L)
    unfold wnums at h ⊢
    rw [List.flatMap_cons, List.length_append, en_length, h, List.length_cons, Nat.add_mul]
    omega

/-- A writer that is handed back. -/
theorem wr_back {w : World} {base c : Nat} {bs : List UInt8} (hc : w.heap[c]? = some (.cells #[.slice none 0 0, .bool false] 63 (0, 0))) {v : Value} (hown : w.ownsRow base 5 1 v bs.length (bs.map by8)) :
    ((w.setCell ⟨c, 0, none⟩ v).setCell ⟨c, 1, none⟩ (.bool false)).ownsRow base 5 1 v bs.length (bs.map by8) :=
  ownsRow_set (ownsRow_set hown hc (by decide)) ((heap_set_same hc).trans rfl) (by decide)

set_option maxRecDepth 100000 in
set_option maxHeartbeats 1000000 in
theorem wds_ok {v : Value} {L : List Nat} (w : World) (hL : RowS w w.heap.size 23 v (L.map fun n => Value.int .u16 (n : Nat))) (hn : L.length ≤ 4294967296) (hb : ∀ n ∈ L, n < 65536) :
    Calls Tryz.prog 24 #[v] w fun e w' => ∃ u, e = .returned (.agg #[u, .bool false]) ∧ w'.ownsRow w.heap.size 5 1 u (wnums 2 L).length ((wnums 2 L).map by8) ∧ Below w.heap.size w w' := by
  obtain ⟨ad, cap, rfl, hx⟩ := hL.len
  rw [List.length_map] at hx hL ⊢
  have HL := Lib.hid hL
  clear hL
  go_enter Tryz.func24, Tryz.ntmps24
  go_wp2_with fail
  have HW0 := Lib.hid (wat_new (w.alloc (.cells #[.slice none 0 0, .bool false] 63)) (base := w.heap.size) (by simp))
  rw [World.size_alloc] at HW0
  go_loopw [8] (fun i wr => ∃ j : Nat, j ≤ L.length ∧ i = .int .i64 j ∧ WAt wr w.heap.size (w.heap.size + 1) false (wnums 2 (L.take j)) ∧
      Fr w.heap.size (w.heap.size + 1) ((w.alloc (.cells #[.slice none 0 0, .bool false] 63)).alloc (.cells #[.slice none 0 0, .bool false] 63)) wr) (fun i _ => L.length - (intOf i).toNat)
  case atStart => exact ⟨0, by omega, rfl, by simpa [wnums] using HW0.out, Fr.refl _ _ _⟩
  case round =>
    obtain ⟨j, hj, rfl, hW, hF⟩ := hrel
    have HB : Hid (Below w.heap.size w wr) := Lib.hid ((((Below.refl _ w).alloc (Nat.le_refl _) _).alloc (by simp) _).trans (hF.below (by simp; omega) (by omega)))
    have HW := Lib.hid hW
    have HF := Lib.hid hF
    clear hW hF
    by_cases hjn : j < L.length
    · obtain ⟨x, rfl⟩ := hx (by omega)
      obtain ⟨y, hy⟩ : ∃ y, y = L[j] := ⟨_, rfl⟩
      have hu : wr.cell? ⟨x, j, none⟩ = some (.int .u16 (y : Nat)) := (HL.out.keep (Nat.le_refl _) HB.out.block).at (by simp [hjn, hy])
      have hyb : y < 65536 := by rw [hy]; exact hb _ (List.getElem_mem hjn)
      have hl : (wnums 2 (L.take j)).length + 4 ≤ 70368744177664 := by rw [wnums_len, List.length_take]; omega
      have HT : Hid (L.take j ++ [y] = L.take (j + 1)) := Lib.hid (by rw [List.take_succ_eq_append_getElem hjn, hy])
      clear hy
      go_wp2_with fail
      refine (wnum_ok 2 _ _ (by omega) (by omega) HW.out hl).mono ?_
      rintro e w1 ⟨rfl, hW1, hF1⟩
      rw [show ((2 : Int).toNat) = 2 from rfl, Int.toNat_natCast, ← wnums_snoc, HT.out] at hW1
      have HW1 := Lib.hid hW1
      have HF1 := Lib.hid (HF.out.trans hF1)
      clear hW1 hF1
      go_wp2_with fail
      exact ⟨⟨j + 1, by omega, by simp, HW1.out, HF1.out⟩, by simp [intOf]; omega⟩
    · have hjn' : j = L.length := by omega
      subst hjn'
      rw [List.take_length] at HW
      have c1 : wr.heap[w.heap.size]? = some (.cells #[.slice none 0 0, .bool false] 63 (0, 0)) := by
        rw [HF.out.keep _ (by simp; omega) (by omega) (.inr ?_)]
        · exact (Below.heap_alloc _ _ _ (by simp)).trans (heap_alloc_new _ _)
        · rintro ⟨cs, fr, e⟩
          rw [(Below.heap_alloc _ _ _ (by simp)).trans (heap_alloc_new _ _)] at e
          simp at e
      obtain ⟨v, hh, hown, hb⟩ := HW.out
      obtain ⟨ao, capw, rfl⟩ := row_slice hown
      have g0 : wr.cell? ⟨w.heap.size + 1, 0, none⟩ = some (.slice ao (wnums 2 L).length capw) := by rw [cell_of_heap hh]; rfl
      have g1 : wr.cell? ⟨w.heap.size + 1, 1, none⟩ = some (.bool false) := by rw [cell_of_heap hh]; rfl
      have d0 : wr.cell? ⟨w.heap.size, 0, none⟩ = some (.slice none 0 0) := by rw [cell_of_heap c1]; rfl
      have d1 : wr.cell? ⟨w.heap.size, 1, none⟩ = some (.bool false) := by rw [cell_of_heap c1]; rfl
      have hfz : ∀ o, wr.frozen? ⟨w.heap.size, o, none⟩ = false := fun o => frozen_of_heap c1
      have HO := Lib.hid hown
      have HC := Lib.hid c1
      clear hh hown c1
      go_wp2_with fail
      (try simp only [Exit.inBlock, Exit.then])
      refine bodyPost_ret (v := .agg #[.slice ao (wnums 2 L).length capw, .bool false]) ?_ rfl ⟨_, rfl, wr_back HC.out HO.out, (HB.out.setCell (Nat.le_refl _) _).setCell (Nat.le_refl _) _⟩
      rw [results_cell1 rfl]
      go_simp

@[go_sem] theorem fieldWr (a b : Value) (w : World) : (Instr.field 63 (.agg #[a, b]) 0).run Tryz.prog w = .ok a w := by kernel_rfl

set_option maxRecDepth 100000 in
set_option maxHeartbeats 1000000 in
theorem sameWords_ok {u v : Value} {L : List Nat} (w : World) (hu : RowS w w.heap.size 23 u (L.map fun n => Value.int .u16 (n : Nat))) (hv : RowS w w.heap.size 23 v (L.map fun n => Value.int .u16 (n : Nat))) (hn : L.length ≤ 4294967296) (hb : ∀ n ∈ L, n < 65536) :
    Calls Tryz.prog 14 #[u, v] w fun e w' => e = .returned (.bool true) ∧ Below w.heap.size w w' := by
  obtain ⟨ad, cap, rfl, _⟩ := hu.len
  obtain ⟨bd, cap2, rfl, _⟩ := hv.len
  rw [List.length_map] at hu hv ⊢
  have HU := Lib.hid hu
  have HV := Lib.hid hv
  clear hu hv
  go_enter Tryz.func14, Tryz.ntmps14
  go_wp2_with fail
  refine (wds_ok w HU.out hn hb).mono ?_
  rintro e w1 ⟨x, rfl, hx, hb1⟩
  obtain ⟨ax, cx, rfl⟩ := row_slice hx
  have HX := Lib.hid hx
  have HB1 := Lib.hid hb1
  have HV1 := Lib.hid (HV.out.keep hb1.size hb1.block)
  clear hx hb1
  go_wp2_with fail
  refine (wds_ok w1 HV1.out hn hb).mono ?_
  rintro e w2 ⟨y, rfl, hy, hb2⟩
  obtain ⟨ay, cy, rfl⟩ := row_slice hy
  have HS1 := Lib.hid (src_own (base := w2.heap.size) (own_kept HX.out fun k hk => hb2.block k (HX.out.lt k hk).2) (Nat.le_refl _)).src
  have HS2 := Lib.hid (src_own (base := w2.heap.size) hy (Nat.le_refl _)).src
  have HB2 := Lib.hid (HB1.out.trans (hb2.mono HB1.out.size))
  clear hy hb2
  go_wp2_with fail
  refine (same_ok w2 HS1.out HS2.out).mono ?_
  rintro e w3 ⟨rfl, rfl⟩
  rw [decide_eq_true rfl]
  go_wp2_with fail
  go_ret
  exact ⟨rfl, HB2.out⟩

end Go.Proofs.YtopcljikkdlffaaGreat
