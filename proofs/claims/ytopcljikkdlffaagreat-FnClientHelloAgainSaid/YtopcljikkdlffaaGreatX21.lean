/- The switch of a ClientHello's unmarshal: names of servers. The switch of a ClientHello's unmarshal: QUIC parameters. No statement of the seat is proved here. -/
import Derived.Test.YtopcljikkdlffaaGreatX09
namespace Go.Proofs.YtopcljikkdlffaaGreat
open Go.RowKit

theorem suffix_list {s : List UInt8} (h : 0 < s.length) : ((({ data := s.toArray } : ByteArray).extract (s.length - 1) s.length).toList == [46]) = decide (s.getLast? = some 46) := by
  have hne : s ≠ [] := List.length_pos_iff.1 h
  obtain ⟨t, b, rfl⟩ : ∃ t b, s = t ++ [b] := ⟨s.dropLast, s.getLast hne, (List.dropLast_concat_getLast hne).symm⟩
  rw [ByteArray.toList_eq, ByteArray.data_extract]
  simp
  by_cases hb : b = 46 <;> simp [hb]

set_option maxRecDepth 100000 in
theorem suffix_ok (s : List UInt8) (hs : s.length ≤ 4294967296) (w : World) : Calls Tryz.prog 33 #[.string ⟨s.toArray⟩, .string ⟨#[46]⟩] w fun e w' => e = .returned (.bool (decide (s.getLast? = some 46))) ∧ w' = w := by
  go_enter Tryz.func33, Tryz.ntmps33
  go_wp2_with fail
  have key : Calls Tryz.prog 45 #[.string ⟨s.toArray⟩, .string ⟨#[46]⟩] w fun e w' => e = .returned (.bool (decide (s.getLast? = some 46))) ∧ w' = w := by
    by_cases h0 : s = []
    · subst h0
      go_enter Tryz.func45, Tryz.ntmps45
      go_wp2_with fail
      go_ret
      exact ⟨rfl, rfl⟩
    · have hl : 0 < s.length := List.length_pos_iff.2 h0
      have hl1 : (1 : Int) ≤ ((s.length : Nat) : Int) := by omega
      have hw : wrap64 (((s.length : Nat) : Int) - 1) = ((s.length : Nat) : Int) - 1 := by unfold wrap64; omega
      have HX := Lib.hid (suffix_list hl)
      clear h0
      go_enter Tryz.func45, Tryz.ntmps45
      go_wp2_with fail
      rw [HX.out]
      go_ret
      exact ⟨rfl, rfl⟩
  refine key.mono ?_
  rintro e w1 ⟨rfl, rfl⟩
  go_wp2_with fail
  go_ret
  exact ⟨rfl, rfl⟩

set_option maxRecDepth 100000 in
set_option maxHeartbeats 8000000 in
theorem ch_sw_0 {w0 w : World} {C : Array Value} {g m eB tB dB mb : Nat} {seen : List Nat} {ex : List UInt8} {f : CH} {d : List UInt8} (z : Nat → Value) (hsz : d.length ≤ 4294967296)
    (hB : Bn w0 C g m (chBs C g m eB tB ex 0 f ++ [(dB, [.vw d])]) (some (mb, seen)) w) :
    Code.wp Tryz.prog chSwitch (ChSw w0 C g m eB dB mb seen (chBs C g m eB tB ex 0) f 0 d ex) ⟨#[.pointer (some ⟨m, 0, none⟩), z 1, z 2, z 3, z 4, z 5, z 6, z 7, .pointer (some ⟨eB, 0, none⟩), .map (some mb), z 10, .pointer (some ⟨dB, 0, none⟩), z 12, z 13, z 14, z 15, z 16, z 17, z 18, z 19, z 20, z 21, z 22, z 23, z 24, z 25, z 26, z 27, z 28, z 29, z 30, z 31, z 32, z 33, z 34, z 35, z 36, z 37, z 38, z 39, z 40, z 41, z 42, z 43, z 44, z 45, z 46, z 47, z 48, z 49, z 50, z 51, z 52, z 53, z 54, z 55, z 56, z 57, z 58, z 59, z 60, z 61, z 62, z 63, z 64, z 65, z 66, z 67, z 68, z 69, z 70, z 71, z 72, z 73, z 74, z 75, z 76, z 77, z 78, z 79, z 80, z 81, z 82, z 83, z 84, z 85, z 86, z 87, z 88, z 89, z 90, z 91, z 92, z 93, z 94, z 95, z 96, z 97, z 98, z 99, z 100, z 101, z 102, z 103, z 104, z 105, z 106, z 107, z 108, z 109, z 110, z 111, z 112, z 113, z 114, z 115, z 116, z 117, z 118, z 119, z 120, z 121, z 122, z 123, z 124, z 125, z 126, z 127, z 128, .int .u16 0, z 130, z 131, z 132, z 133, z 134, z 135, z 136, z 137, z 138, z 139, z 140, z 141, z 142, z 143, z 144, z 145, z 146, z 147, z 148, z 149, z 150, z 151, z 152, z 153, z 154, z 155, z 156, z 157, z 158, z 159, z 160, z 161, z 162, z 163, z 164, z 165, z 166, z 167, z 168, z 169, z 170, z 171, z 172, z 173, z 174, z 175, z 176, z 177, z 178, z 179, z 180, z 181, z 182, z 183, z 184, z 185, z 186, z 187, z 188, z 189, z 190, z 191, z 192, z 193, z 194, z 195, z 196, z 197, z 198, z 199, z 200, z 201, z 202, z 203, z 204, z 205, z 206, z 207, z 208, z 209, z 210, z 211, z 212, z 213, z 214, z 215, z 216, z 217, z 218, z 219, z 220, z 221, z 222, z 223, z 224, z 225, z 226, z 227, z 228, z 229, z 230, z 231, z 232, z 233, z 234, z 235, z 236, z 237, z 238, z 239, z 240, z 241, z 242, z 243, z 244, z 245, z 246, z 247, z 248, z 249, z 250, z 251, z 252, z 253, z 254, z 255, z 256, z 257, z 258, z 259, z 260, z 261, z 262, z 263, z 264, z 265, z 266, z 267, z 268, z 269, z 270, z 271, z 272, z 273, z 274, z 275, z 276, z 277, z 278, z 279, z 280, z 281, z 282, z 283, z 284, z 285, z 286, z 287, z 288, z 289, z 290, z 291, z 292, z 293, z 294, z 295, z 296, z 297, z 298, z 299, z 300, z 301, z 302, z 303, z 304, z 305, z 306, z 307, z 308, z 309, z 310, z 311, z 312, z 313, z 314, z 315, z 316, z 317, z 318, z 319, z 320, z 321, z 322, z 323, z 324, z 325, z 326, z 327, z 328, z 329, z 330, z 331, z 332, z 333, z 334, z 335, z 336, z 337, z 338, z 339, z 340, z 341, z 342, z 343, z 344, z 345, z 346, z 347, z 348, z 349, z 350, z 351, z 352, z 353, z 354, z 355, z 356, z 357, z 358, z 359, z 360, z 361, z 362, z 363, z 364, z 365, z 366, z 367, z 368, z 369, z 370, z 371, z 372, z 373, z 374, z 375, z 376, z 377, z 378, z 379, z 380, z 381, z 382, z 383, z 384, z 385, z 386, z 387, z 388, z 389, z 390, z 391, z 392, z 393, z 394, z 395, z 396, z 397, z 398, z 399, z 400, z 401, z 402, z 403, z 404, z 405, z 406, z 407, z 408, z 409, z 410, z 411, z 412, z 413, z 414, z 415, z 416, z 417, z 418, z 419, z 420, z 421, z 422, z 423, z 424, z 425, z 426, z 427, z 428, z 429, z 430, z 431, z 432, z 433, z 434, z 435, z 436, z 437, z 438, z 439, z 440, z 441, z 442, z 443, z 444, z 445, z 446, z 447, z 448, z 449, z 450, z 451, z 452, z 453, z 454, z 455, z 456, z 457, z 458, z 459, z 460, z 461, z 462, z 463, z 464, z 465, z 466, z 467, z 468, z 469, z 470, z 471, z 472, z 473, z 474, z 475, z 476, z 477, z 478, z 479, z 480, z 481, z 482, z 483, z 484, z 485, z 486, z 487, z 488, z 489, z 490, z 491, z 492, z 493, z 494, z 495, z 496, z 497, z 498, z 499], []⟩ w := by
  have HB := Lib.hid hB
  clear hB
  conv => arg 2; whnf
  go_wp2_with fail
  obtain ⟨sB, hsB⟩ : ∃ x, x = w.heap.size := ⟨_, rfl⟩
  have HB1 := Lib.hid (HB.out.one (.slice none 0 0) 69 .any rfl trivial)
  rw [← hsB] at HB1 ⊢
  clear hsB
  cases hr : rdv 2 d with
  | none =>
    have HR := Lib.hid hr
    clear hr
    refine (br16_no HB1.out HR.out (b := 3) (i := 0) rfl rfl _).mono ?_
    rintro e wx ⟨rfl, hf⟩
    have HF := Lib.hid hf
    clear hf
    go_wp2_with fail
    exact ⟨rfl, rfl, .inl ⟨rfl, by simp [chExt, HR.out], rfl, HF.out⟩⟩
  | some y =>
    obtain ⟨L, r⟩ := y
    have HR := Lib.hid hr
    have hLd : L.length ≤ d.length := by rw [(rdv_some hr).1]; simp; omega
    clear hr
    refine (br16 HB1.out HR.out (b := 3) (i := 0) rfl rfl (c := 4) (j := 0) rfl rfl (.vw L) rfl (fun _ h => h) (by decide)).mono ?_
    rintro e w1 ⟨rfl, hb⟩
    have hb : Bn w0 C g m (chBs C g m eB tB ex 0 f ++ [(dB, [.vw r]), (sB, [.vw L])]) (some (mb, seen)) w1 := hb
    have HB2 := Lib.hid hb
    obtain ⟨vs, hvs, hV⟩ := hb.vw (b := 4) (i := 0) rfl rfl
    have HV := Lib.hid hV
    clear hb hV
    go_wp2_with fail
    refine (empty_any _ HV.out).mono ?_
    rintro e w2 ⟨rfl, rfl⟩
    by_cases h0 : L = []
    · subst h0
      simp only [List.isEmpty_nil]
      go_wp2_with fail
      exact ⟨rfl, rfl, .inl ⟨rfl, by simp [chExt, HR.out], rfl, HB2.out.fs⟩⟩
    · have he0 : L.isEmpty = false := by simpa using h0
      rw [he0]
      have H0 := Lib.hid h0
      clear h0 he0 hvs HV
      go_wp2_with fail
      go_loopw [] (fun wr => ∃ (a s : List UInt8) (n : Nat), Bn w0 C g m (chBs C g m eB tB ex 0 { f with name := a } ++ [(dB, [.vw r]), (sB, [.vw s])]) (some (mb, seen)) wr ∧ s.length ≤ n ∧
        tnames n a s = tnames L.length f.name L ∧ s.length ≤ L.length) (fun wr => cellLen wr sB)
      case atStart =>
        exact ⟨f.name, L, L.length, HB2.out, Nat.le_refl _, rfl, Nat.le_refl _⟩
      case round =>
        obtain ⟨a, s, n, hb, hn, htv, hlen⟩ := hrel
        have HB3 := Lib.hid hb
        have HTV := Lib.hid htv
        have HCL := Lib.hid (hb.len (b := 4) (F := []) rfl)
        obtain ⟨vs, hvs, hV⟩ := hb.vw (b := 4) (i := 0) rfl rfl
        have HV := Lib.hid hV
        clear hb htv hV
        go_wp2_with fail
        refine (empty_any _ HV.out).mono ?_
        rintro e w2 ⟨rfl, rfl⟩
        by_cases hs0 : s = []
        · subst hs0
          have hT : tnames L.length f.name L = some a := by
            have h := HTV.out
            rw [tnames_nil] at h
            exact h.symm
          have HT := Lib.hid hT
          clear hT
          simp only [List.isEmpty_nil]
          go_wp2_with fail
          exact ⟨rfl, rfl, .inr ⟨{ f with name := a }, r, by simp [chExt, HR.out, H0.out, HT.out], ⟨rfl, rfl, rfl, rfl⟩, .inr ⟨rfl, rfl, HB3.out.take 4⟩⟩⟩
        · have he0 : s.isEmpty = false := by simpa using hs0
          rw [he0]
          obtain ⟨n, rfl⟩ : ∃ n', n = n' + 1 := ⟨n - 1, by have := List.length_pos_iff.2 hs0; omega⟩
          have HTV2 := Lib.hid (tnames_succ (n := n) (a := a) hs0)
          have HTV3 : Hid (tnames (n + 1) a s = tnames L.length f.name L) := HTV
          clear he0 hs0 hvs HV
          go_wp2_with fail
          obtain ⟨yB, hyB⟩ : ∃ x, x = wr.heap.size := ⟨_, rfl⟩
          have HB4 := Lib.hid ((HB3.out.one (.int .u8 0) 5 .any rfl trivial).one (.slice none 0 0) 69 .any rfl trivial)
          rw [World.size_alloc, ← hyB] at HB4
          rw [← hyB]
          obtain ⟨vB, hvB⟩ : ∃ x, x = yB + 1 := ⟨_, rfl⟩
          rw [← hvB] at HB4 ⊢
          clear hvB hyB
          cases hr2 : rd 1 s with
          | none =>
            have hx : chExt f 0 d ex = none := by
              have h := HTV.out
              rw [HTV2.out, hr2] at h
              simp [chExt, HR.out, H0.out, ← h]
            have HX := Lib.hid hx
            have HR2 := Lib.hid hr2
            clear hr2 hx
            refine (bru8_no HB4.out HR2.out (b := 4) (i := 0) rfl rfl _).mono ?_
            rintro e w3 ⟨rfl, hf⟩
            have HF := Lib.hid hf
            clear hf
            go_wp2_with fail
            exact ⟨rfl, rfl, .inl ⟨rfl, HX.out, rfl, HF.out⟩⟩
          | some y =>
            obtain ⟨t, s1⟩ := y
            have hxl1 : s.length = 1 + s1.length := by
              obtain ⟨e1, e2⟩ := rd_some hr2
              rw [e1, List.length_append, e2]
            have HTV4 : Hid (((rdv 2 s1).bind fun z => if z.1 = [] then none else if be t ≠ 0 then tnames n a z.2 else if a ≠ [] then none else if z.1.getLast? = some 46 then none else tnames n z.1 z.2) = tnames L.length f.name L) := by
              rw [← HTV.out, HTV2.out, hr2]; rfl
            have HR2 := Lib.hid hr2
            clear hr2
            refine (bru8 HB4.out HR2.out (b := 4) (i := 0) rfl rfl (c := 5) (j := 0) rfl rfl (by decide)).mono ?_
            rintro e w3 ⟨rfl, hb⟩
            have hb : Bn w0 C g m (chBs C g m eB tB ex 0 { f with name := a } ++ [(dB, [.vw r]), (sB, [.vw s1]), (yB, [.val (.int .u8 (be t : Nat))]), (vB, [.any])]) (some (mb, seen)) w3 := hb
            have HB5 := Lib.hid hb
            clear hb
            go_wp2_with fail
            cases hr3 : rdv 2 s1 with
            | none =>
              have hx : chExt f 0 d ex = none := by
                have h := HTV4.out
                rw [hr3] at h
                simp [chExt, HR.out, H0.out, ← h]
              have HX := Lib.hid hx
              have HR3 := Lib.hid hr3
              clear hr3 hx
              refine (br16_no HB5.out HR3.out (b := 4) (i := 0) rfl rfl _).mono ?_
              rintro e w4 ⟨rfl, hf⟩
              have HF := Lib.hid hf
              clear hf
              go_wp2_with fail
              exact ⟨rfl, rfl, .inl ⟨rfl, HX.out, rfl, HF.out⟩⟩
            | some y =>
              obtain ⟨x, s2⟩ := y
              have hxl : s1.length = 2 + x.length + s2.length := by rw [(rdv_some hr3).1]; simp [en_length]; omega
              have HTV5 : Hid ((if x = [] then none else if be t ≠ 0 then tnames n a s2 else if a ≠ [] then none else if x.getLast? = some 46 then none else tnames n x s2) = tnames L.length f.name L) := by
                rw [← HTV4.out, hr3]; rfl
              have HR3 := Lib.hid hr3
              clear hr3
              refine (br16 HB5.out HR3.out (b := 4) (i := 0) rfl rfl (c := 6) (j := 0) rfl rfl (.vw x) rfl (fun _ h => h) (by decide)).mono ?_
              rintro e w4 ⟨rfl, hb⟩
              have hb : Bn w0 C g m (chBs C g m eB tB ex 0 { f with name := a } ++ [(dB, [.vw r]), (sB, [.vw s2]), (yB, [.val (.int .u8 (be t : Nat))]), (vB, [.vw x])]) (some (mb, seen)) w4 := hb
              have HB6 := Lib.hid hb
              obtain ⟨u, hu, hU⟩ := hb.vw (b := 6) (i := 0) rfl rfl
              have HU := Lib.hid hU
              obtain ⟨ou, cu, hus, _⟩ := hU.slice
              subst hus
              have qt := hb.val (b := 5) (i := 0) rfl rfl
              obtain ⟨Tg, frg, hG⟩ := hb.data
              have hcv := convS_ok (vn_src (.inr hU) hG).src
              have qn := hb.val (b := 0) (i := 6) rfl rfl
              have qnz := hb.frozen (b := 0) rfl 6
              have HB7 := Lib.hid (hb.set (b := 0) (i := 6) rfl rfl (.val (.string ⟨x.toArray⟩)) _ rfl rfl)
              have hbelow : s2.length < s.length := by omega
              clear hb hU hG
              go_wp2_with fail
              refine (empty_any _ HU.out).mono ?_
              rintro e w5 ⟨rfl, rfl⟩
              by_cases hx0 : x = []
              · subst hx0
                have hx : chExt f 0 d ex = none := by
                  have h := HTV5.out
                  simp at h
                  simp [chExt, HR.out, H0.out, ← h]
                have HX := Lib.hid hx
                clear hx
                simp only [List.isEmpty_nil]
                go_wp2_with fail
                exact ⟨rfl, rfl, .inl ⟨rfl, HX.out, rfl, HB6.out.fs⟩⟩
              · have hx1 : x.isEmpty = false := by simpa using hx0
                rw [hx1]
                have HTV6 : Hid ((if be t ≠ 0 then tnames n a s2 else if a ≠ [] then none else if x.getLast? = some 46 then none else tnames n x s2) = tnames L.length f.name L) := by
                  have h := HTV5.out
                  rwa [if_neg hx0] at h
                clear hx0 hx1
                by_cases ht : be t = 0
                · have HTV7 : Hid ((if a ≠ [] then none else if x.getLast? = some 46 then none else tnames n x s2) = tnames L.length f.name L) := by
                    have h := HTV6.out
                    rwa [if_neg (by simpa using ht)] at h
                  rw [ht] at qt
                  clear ht
                  by_cases ha : a = []
                  · subst ha
                    have HTV8 : Hid ((if x.getLast? = some 46 then none else tnames n x s2) = tnames L.length f.name L) := by
                      have h := HTV7.out
                      rwa [if_neg (by simp)] at h
                    go_wp2_with fail
                    refine (suffix_ok x (by omega) _).mono ?_
                    rintro e w6 ⟨rfl, rfl⟩
                    by_cases h46 : x.getLast? = some 46
                    · have hx : chExt f 0 d ex = none := by
                        have h := HTV8.out
                        rw [if_pos h46] at h
                        simp [chExt, HR.out, H0.out, ← h]
                      have HX := Lib.hid hx
                      simp only [h46, decide_true]
                      clear hx h46
                      go_wp2_with fail
                      exact ⟨rfl, rfl, .inl ⟨rfl, HX.out, rfl, HB7.out.fs⟩⟩
                    · have HTV9 : Hid (tnames n x s2 = tnames L.length f.name L) := by
                        have h := HTV8.out
                        rwa [if_neg h46] at h
                      simp only [h46, decide_false]
                      clear h46
                      go_wp2_with fail
                      exact ⟨⟨x, s2, n, HB7.out.take 5, by omega, HTV9.out, by omega⟩, by rw [HB7.out.len (b := 4) (F := []) rfl, HCL.out]; exact hbelow⟩
                  · have hl0 : ¬ a.length = 0 := fun h => ha (List.length_eq_zero_iff.1 h)
                    have hl1 : ¬ ((a.length : Nat) : Int) = 0 := by omega
                    have hl2 : (((a.length : Nat) : Int) != 0) = true := by simp; exact ha
                    have hx : chExt f 0 d ex = none := by
                      have h := HTV7.out
                      rw [if_pos ha] at h
                      simp [chExt, HR.out, H0.out, ← h]
                    have HX := Lib.hid hx
                    clear hx ha
                    go_wp2_with fail
                    exact ⟨rfl, rfl, .inl ⟨rfl, HX.out, rfl, HB6.out.fs⟩⟩
                · have HTV7 : Hid (tnames n a s2 = tnames L.length f.name L) := by
                    have h := HTV6.out
                    rwa [if_pos (by simpa using ht)] at h
                  have q1 : ¬ ((be t : Nat) : Int) = 0 := by omega
                  have q2 : (((be t : Nat) : Int) != 0) = true := by simp; exact ht
                  clear ht
                  go_wp2_with fail
                  exact ⟨⟨a, s2, n, HB6.out.take 5, by omega, HTV7.out, by omega⟩, by rw [HB6.out.len (b := 4) (F := []) rfl, HCL.out]; exact hbelow⟩

end Go.Proofs.YtopcljikkdlffaaGreat
namespace Go.Proofs.YtopcljikkdlffaaGreat
open Go.RowKit

theorem ShowQ.some {d : List UInt8} {x : Addr} {n c : Nat} : ShowQ (some d) (.slice (some x) n c) (d.map by8) := ⟨rfl, _, _, _, rfl, rfl⟩

/-- Bytes are copied into a row that was just made, and that a cell already shows. -/
theorem bcopy {w0 w : World} {C : Array Value} {g m : Nat} {Bs : List (Nat × List FD)} {Ms : Option (Nat × List Nat)} {b c p q j : Nat} {G : List FD} {fo : FD} {d : List UInt8} (h : Bn w0 C g m Bs Ms w) (hb : Bs[b]? = some (p, [.vw d])) (hc : Bs[c]? = some (q, G)) (hj : G[j]? = some fo) (hbc : b ≠ c)
    (R : Value → List Value → Prop) (hR : R (.slice (some ⟨w.heap.size, 0, none⟩) d.length d.length) (d.map by8)) (hd : d.length ≤ 4294967296) :
    Calls Tryz.prog 36 #[.pointer (some ⟨p, 0, none⟩), .slice (some ⟨w.heap.size, 0, none⟩) d.length d.length] ((w.alloc (.cells (List.replicate d.length (Value.int .u8 0)).toArray 5)).setCell ⟨q, j, none⟩ (.slice (some ⟨w.heap.size, 0, none⟩) d.length d.length))
      fun e w' => e = .returned (.bool true) ∧ Bn w0 C g m ((Bs.set c (q, G.set j (.own 5 1 d.length R))).set b (p, [.vw []])) Ms w' := by
  obtain ⟨Tg, frg, hg⟩ := h.data
  obtain ⟨v, hv, hV⟩ := h.vw (i := 0) hb rfl
  obtain ⟨Dp, Tp, hp, hDs⟩ := h.blk b p _ hb
  obtain ⟨Dq, Tq, hq, _⟩ := h.blk c q _ hc
  have hpl := lt_of_heap hp
  have hql := lt_of_heap hq
  have hgl := lt_of_heap hg
  have hpq := h.ne hb hc hbc
  have hpg := h.ne_g hb
  have hqg := h.ne_g hc
  have hDp : Dp = #[v] := by
    rw [cell_of_heap hp] at hv
    cases Dp with
    | mk l =>
      match l, hDs, hv with
      | [x], _, hv => cases hv; rfl
  subst hDp
  obtain ⟨r0, hr0⟩ : ∃ x, x = w.heap.size := ⟨_, rfl⟩
  rw [← hr0] at hR ⊢
  -- the world as if the row had been made with the bytes
  have hB0 := h.push (.cells (d.map by8).toArray 5)
  have hnewY : (w.alloc (.cells (d.map by8).toArray 5)).heap[r0]? = some (.cells (d.map by8).toArray 5 (0, 0)) := by rw [hr0]; exact heap_alloc_new _ _
  have hown : (w.alloc (.cells (d.map by8).toArray 5)).ownsRow w0.heap.size 5 1 (.slice (some ⟨r0, 0, none⟩) d.length d.length) d.length (d.map by8) :=
    ⟨by simp, .inr ⟨r0, d.length, (d.map by8).toArray, rfl, by rw [hr0]; exact h.fs.size, hnewY, Nat.le_refl _, by unfold maxLen; omega, by simp, by rw [Nat.mul_one, List.take_of_length_le (by simp)]⟩⟩
  have hB1 := hB0.store hc hj (.own 5 1 d.length R) (.slice (some ⟨r0, 0, none⟩) d.length d.length) ⟨_, hown, hR⟩ fun _ k hk => by
    have hk' : r0 = k := by simpa [Value.ownBlock] using hk
    subst hk'
    refine ⟨fun c' q' G' hc' e => by have := h.lt hc'; omega, fun c' q' G' j' fd' v' hc' hj' ho' hv' e => ?_⟩
    obtain ⟨x, hx, hrx⟩ := h.rel c' q' G' j' fd' hc' hj'
    rw [World.cell?_of_block (Below.heap_alloc w _ q' (h.lt hc')), hx] at hv'
    cases hv'
    have := (hrx.lt ho' _ e).2
    omega
  have hb1 : (Bs.set c (q, G.set j (.own 5 1 d.length R)))[b]? = some (p, [.vw d]) := by rw [List.getElem?_set_ne (fun e => hbc e.symm)]; exact hb
  have hWp : ((w.alloc (.cells (List.replicate d.length (Value.int .u8 0)).toArray 5)).setCell ⟨q, j, none⟩ (.slice (some ⟨r0, 0, none⟩) d.length d.length)).heap[p]? = some (.cells #[v] Tp (0, 0)) := heap_past (heap_push hp) (fun e => hpq e.symm)
  have hWr : ((w.alloc (.cells (List.replicate d.length (Value.int .u8 0)).toArray 5)).setCell ⟨q, j, none⟩ (.slice (some ⟨r0, 0, none⟩) d.length d.length)).heap[r0]? = some (.cells (List.replicate d.length (Value.int .u8 0)).toArray 5 (0, 0)) := heap_past (by rw [hr0]; exact heap_alloc_new _ _) (by omega)
  refine (copyB_ok (p := p) (h := r0) (g := g) (Tp := Tp) _ (heap_past (heap_push hg) hqg) hV hWp hWr (fun e => hpg e.symm) (by omega) (by omega)).mono ?_
  rintro e w' ⟨v2, rfl, hv2, hp2, hr2, hf2⟩
  refine ⟨rfl, (hB1.set hb1 (i := 0) rfl (.vw []) v2 rfl hv2).keep ⟨hf2.os, hf2.tape, hf2.output, ?_, fun k hk _ => ?_⟩⟩
  · have := hf2.size
    simpa [World.setCell] using this
  · have hkl : k < w.heap.size + 1 := by simpa [World.setCell] using hk
    by_cases e1 : k = p
    · subst e1
      rw [hp2, heap_set_same (heap_past (heap_push hp) (fun e => hpq e.symm))]
      rfl
    · rw [Below.heap_setCell _ _ _ k (fun e => e1 e)]
      by_cases e2 : k = r0
      · subst e2
        rw [hr2, heap_past hnewY (by omega)]
      · rw [hf2.keep k (by simp [World.setCell]; omega) (by simp [e1, e2])]
        have e3 : (w.alloc (.cells (List.replicate d.length (Value.int .u8 0)).toArray 5)).heap[k]? = (w.alloc (.cells (d.map by8).toArray 5)).heap[k]? := by
          rw [Below.heap_alloc w _ k (by omega), Below.heap_alloc w _ k (by omega)]
        by_cases e4 : k = q
        · subst e4
          rw [heap_set_same (heap_push hq), heap_set_same (heap_push hq)]
        · rw [Below.heap_setCell _ _ _ k (fun e => e4 e), Below.heap_setCell _ _ _ k (fun e => e4 e), e3]

set_option maxRecDepth 100000 in
set_option maxHeartbeats 8000000 in
theorem ch_sw_57 {w0 w : World} {C : Array Value} {g m eB tB dB mb : Nat} {seen : List Nat} {ex : List UInt8} {f : CH} {d : List UInt8} (z : Nat → Value) (hsz : d.length ≤ 4294967296)
    (hB : Bn w0 C g m (chBs C g m eB tB ex 57 f ++ [(dB, [.vw d])]) (some (mb, seen)) w) :
    Code.wp Tryz.prog chSwitch (ChSw w0 C g m eB dB mb seen (chBs C g m eB tB ex 57) f 57 d ex) ⟨#[.pointer (some ⟨m, 0, none⟩), z 1, z 2, z 3, z 4, z 5, z 6, z 7, .pointer (some ⟨eB, 0, none⟩), .map (some mb), z 10, .pointer (some ⟨dB, 0, none⟩), z 12, z 13, z 14, z 15, z 16, z 17, z 18, z 19, z 20, z 21, z 22, z 23, z 24, z 25, z 26, z 27, z 28, z 29, z 30, z 31, z 32, z 33, z 34, z 35, z 36, z 37, z 38, z 39, z 40, z 41, z 42, z 43, z 44, z 45, z 46, z 47, z 48, z 49, z 50, z 51, z 52, z 53, z 54, z 55, z 56, z 57, z 58, z 59, z 60, z 61, z 62, z 63, z 64, z 65, z 66, z 67, z 68, z 69, z 70, z 71, z 72, z 73, z 74, z 75, z 76, z 77, z 78, z 79, z 80, z 81, z 82, z 83, z 84, z 85, z 86, z 87, z 88, z 89, z 90, z 91, z 92, z 93, z 94, z 95, z 96, z 97, z 98, z 99, z 100, z 101, z 102, z 103, z 104, z 105, z 106, z 107, z 108, z 109, z 110, z 111, z 112, z 113, z 114, z 115, z 116, z 117, z 118, z 119, z 120, z 121, z 122, z 123, z 124, z 125, z 126, z 127, z 128, .int .u16 57, z 130, z 131, z 132, z 133, z 134, z 135, z 136, z 137, z 138, z 139, z 140, z 141, z 142, z 143, z 144, z 145, z 146, z 147, z 148, z 149, z 150, z 151, z 152, z 153, z 154, z 155, z 156, z 157, z 158, z 159, z 160, z 161, z 162, z 163, z 164, z 165, z 166, z 167, z 168, z 169, z 170, z 171, z 172, z 173, z 174, z 175, z 176, z 177, z 178, z 179, z 180, z 181, z 182, z 183, z 184, z 185, z 186, z 187, z 188, z 189, z 190, z 191, z 192, z 193, z 194, z 195, z 196, z 197, z 198, z 199, z 200, z 201, z 202, z 203, z 204, z 205, z 206, z 207, z 208, z 209, z 210, z 211, z 212, z 213, z 214, z 215, z 216, z 217, z 218, z 219, z 220, z 221, z 222, z 223, z 224, z 225, z 226, z 227, z 228, z 229, z 230, z 231, z 232, z 233, z 234, z 235, z 236, z 237, z 238, z 239, z 240, z 241, z 242, z 243, z 244, z 245, z 246, z 247, z 248, z 249, z 250, z 251, z 252, z 253, z 254, z 255, z 256, z 257, z 258, z 259, z 260, z 261, z 262, z 263, z 264, z 265, z 266, z 267, z 268, z 269, z 270, z 271, z 272, z 273, z 274, z 275, z 276, z 277, z 278, z 279, z 280, z 281, z 282, z 283, z 284, z 285, z 286, z 287, z 288, z 289, z 290, z 291, z 292, z 293, z 294, z 295, z 296, z 297, z 298, z 299, z 300, z 301, z 302, z 303, z 304, z 305, z 306, z 307, z 308, z 309, z 310, z 311, z 312, z 313, z 314, z 315, z 316, z 317, z 318, z 319, z 320, z 321, z 322, z 323, z 324, z 325, z 326, z 327, z 328, z 329, z 330, z 331, z 332, z 333, z 334, z 335, z 336, z 337, z 338, z 339, z 340, z 341, z 342, z 343, z 344, z 345, z 346, z 347, z 348, z 349, z 350, z 351, z 352, z 353, z 354, z 355, z 356, z 357, z 358, z 359, z 360, z 361, z 362, z 363, z 364, z 365, z 366, z 367, z 368, z 369, z 370, z 371, z 372, z 373, z 374, z 375, z 376, z 377, z 378, z 379, z 380, z 381, z 382, z 383, z 384, z 385, z 386, z 387, z 388, z 389, z 390, z 391, z 392, z 393, z 394, z 395, z 396, z 397, z 398, z 399, z 400, z 401, z 402, z 403, z 404, z 405, z 406, z 407, z 408, z 409, z 410, z 411, z 412, z 413, z 414, z 415, z 416, z 417, z 418, z 419, z 420, z 421, z 422, z 423, z 424, z 425, z 426, z 427, z 428, z 429, z 430, z 431, z 432, z 433, z 434, z 435, z 436, z 437, z 438, z 439, z 440, z 441, z 442, z 443, z 444, z 445, z 446, z 447, z 448, z 449, z 450, z 451, z 452, z 453, z 454, z 455, z 456, z 457, z 458, z 459, z 460, z 461, z 462, z 463, z 464, z 465, z 466, z 467, z 468, z 469, z 470, z 471, z 472, z 473, z 474, z 475, z 476, z 477, z 478, z 479, z 480, z 481, z 482, z 483, z 484, z 485, z 486, z 487, z 488, z 489, z 490, z 491, z 492, z 493, z 494, z 495, z 496, z 497, z 498, z 499], []⟩ w := by
  have HB := Lib.hid hB
  obtain ⟨vd, hvd, hVd⟩ := hB.vw (b := 3) (i := 0) rfl rfl
  obtain ⟨od, cd, rfl, _⟩ := hVd.slice
  obtain ⟨vq, hq, _⟩ := hB.at (b := 0) (i := 26) rfl rfl
  obtain ⟨n, hn⟩ : ∃ n, n = d.length := ⟨_, rfl⟩
  have hmk := make_row w n (by omega)
  have hcp := bcopy hB (b := 3) rfl (c := 0) (j := 26) rfl rfl (by decide) (ShowQ (some d)) ShowQ.some hsz
  have hml := hB.lt (b := 0) rfl
  have hz0 := hB.frozen (b := 0) rfl 26
  obtain ⟨Z, hZ⟩ : ∃ Z, Z = (List.replicate n (Value.int .u8 0)).toArray := ⟨_, rfl⟩
  rw [← hn] at hvd hcp
  rw [← hZ] at hmk hcp
  obtain ⟨wA, hA⟩ : ∃ x, x = w.alloc (.cells Z 5) := ⟨_, rfl⟩
  rw [← hA] at hmk hcp
  have hq1 : wA.cell? ⟨m, 26, none⟩ = some vq := by rw [← hq, hA]; exact World.cell?_alloc_lt _ _ _ hml
  have hqz1 : wA.frozen? ⟨m, 26, none⟩ = false := by
    obtain ⟨D, T, hh, _⟩ := hB.blk 0 m _ rfl
    rw [hA]
    exact frozen_of_heap (T := T) (C := D) (heap_push hh)
  obtain ⟨u, hu⟩ : ∃ u, u = Value.slice (some ⟨w.heap.size, 0, none⟩) n n := ⟨_, rfl⟩
  rw [← hu] at hcp
  have HCP := Lib.hid hcp
  have HN := Lib.hid hn
  have hus : u = .slice (some ⟨w.heap.size, 0, none⟩) n n := hu
  have q2 : (wA.setCell ⟨m, 26, none⟩ u).cell? ⟨m, 26, none⟩ = some (.slice (some ⟨w.heap.size, 0, none⟩) n n) := by rw [hus]; exact cell_same hq1
  rw [hu] at HCP
  rw [hu] at q2
  clear hB hVd hcp hq hn hZ hA hu hus HB
  conv => arg 2; whnf
  go_wp2_with fail
  refine HCP.out.mono ?_
  rintro e w1 ⟨rfl, hb⟩
  rw [HN.out] at hb
  have hb : Bn w0 C g m (chBs C g m eB tB ex 57 { f with quic := some d } ++ [(dB, [.vw []])]) (some (mb, seen)) w1 := hb
  have HB2 := Lib.hid hb
  clear hb
  go_wp2_with fail
  exact ⟨rfl, rfl, .inr ⟨{ f with quic := some d }, [], rfl, ⟨rfl, rfl, rfl, rfl⟩, .inr ⟨rfl, rfl, HB2.out⟩⟩⟩

end Go.Proofs.YtopcljikkdlffaaGreat
